import JvmDerived
import JvmDerived.Pilot.@@N@@Statement
import JvmDerived.Pilot.@@N@@Code
set_option linter.unusedVariables false
set_option linter.unusedSimpArgs false
namespace Jvm.OwnWalk
open Sem ClassFile Op Lib Jvm.Stand Jvm.Free Jvm.LawKit Jvm.RoadKit
/-- from t the run comes to an end of which P holds -/
def Win (tb : Tables) (e : Env) (below : List Frame) (P : State → Outcome → Prop) (t : State) : Prop :=
  ∃ s₂ o, Steps tb e below t s₂ ∧ s₂.status = .running ∧ Ended s₂ below o ∧ P s₂ o
theorem Win.go {tb : Tables} {e : Env} {below : List Frame} {P : State → Outcome → Prop} {t t' : State} (st : ∀ z, Steps tb e below t' z → Steps tb e below t z) (w : Win tb e below P t') : Win tb e below P t := by
  obtain ⟨s2, o, h, r⟩ := w; exact ⟨s2, o, st _ h, r⟩
theorem Win.come {tb : Tables} {e : Env} {below : List Frame} {P : State → Outcome → Prop} {t t' : State} (st : Steps tb e below t t') (w : Win tb e below P t') : Win tb e below P t := by
  obtain ⟨s2, o, h, r⟩ := w; exact ⟨s2, o, st.trans h, r⟩
/-- the body has returned v with the heap h, L written -/
def PostQ (s : State) (Q : Option Value → Heap → List Loc → Prop) (C S : Nat) (u : State) (o : Outcome) : Prop := ∃ v L, o = .returned v ∧ Q v u.heap L ∧ FrameEnd s o u L C S
section Ret
variable {p : Program} {l : Launch} {e : Env} {R : Room} {s : State} {m : MethodId} {args : Array Value} {below : List Frame} {meth : Method} {c : Code} {T : State} {locs : List Loc} {cells slots : Nat} {h : Heap} {Q : Option Value → Heap → List Loc → Prop} {C S : Nat}
theorem retI' (X : Stand p l e R s m args below meth c T locs cells slots) (hx : p.tables.exec = Jvm.exec) {pc : Nat} {Ls : Array Slot} {z : Int32} {rest : List Value} (hret : meth.sig.returnType = some .int) (hd : decode c.code pc = .ok (.ireturn, 1)) {fs : List Frame}
    (hl : ∀ (f : JFrame) (acts : List Action), f.method = m → f.locked = none → f.entered = [] → (doReturn e (T.setTop f) acts (some (.int z))).1 = T.setFrames fs) : Steps p.tables e below (T.setTop (mkF m pc Ls (.int z :: rest))) (T.setFrames fs) := by
  have hm' : T.vm.method? m = some meth := X.method'
  have hn : narrow .int (.int z) = .int z := rfl
  show Steps p.tables e below (T.setTop { method := m, pc := pc, locals := Ls, stack := _ :: rest, locked := none }) _
  jvm_step X.here [X.here.top, hx, hd, hm', hret, hn]
  first | (intro acts; rw [hl _ acts rfl rfl rfl]) | rw [hl _ _ rfl rfl rfl]
  exact Steps.refl _
theorem retA' (X : Stand p l e R s m args below meth c T locs cells slots) (hx : p.tables.exec = Jvm.exec) {pc : Nat} {Ls : Array Slot} {w : Value} {t : FieldType} (hret : meth.sig.returnType = some t) (ht : t.isReference = true) (hv : w.isRef = true) (hd : decode c.code pc = .ok (.areturn, 1)) {fs : List Frame}
    (hl : ∀ (f : JFrame) (acts : List Action), f.method = m → f.locked = none → f.entered = [] → (doReturn e (T.setTop f) acts (some w)).1 = T.setFrames fs) : Steps p.tables e below (T.setTop (mkF m pc Ls [w])) (T.setFrames fs) := by
  have hm' : T.vm.method? m = some meth := X.method'
  show Steps p.tables e below (T.setTop { method := m, pc := pc, locals := Ls, stack := [w], locked := none }) _
  jvm_step X.here [X.here.top, hx, hd, hm', hret, hv, ht]
  first | (intro acts; rw [hl _ acts rfl rfl rfl]) | rw [hl _ _ rfl rfl rfl]
  exact Steps.refl _
theorem winI (X : Stand p l e R s m args below meth c T locs cells slots) (hx : p.tables.exec = Jvm.exec) (hlk : meth.locks = false) (eT : T.heap = h) {pc : Nat} {Ls : Array Slot} {z : Int32} {rest : List Value} (hret : meth.sig.returnType = some .int) (hd : decode c.code pc = .ok (.ireturn, 1))
    (hc : cells ≤ C) (hs : slots ≤ S) (hQ : Q (some (.int z)) h locs) : Win p.tables e below (PostQ s Q C S) (T.setTop (mkF m pc Ls (.int z :: rest))) := by
  subst eT
  obtain ⟨fs, hr, hrun, hended, hW, hsame⟩ := X.leave (v := some (.int z)) (fun h => by rw [hret] at h; cases h) hlk
  exact ⟨_, _, retI' X hx hret hd hr, hrun, hended, _, _, rfl, hQ, ⟨_, rfl⟩, hW, hsame.mono hc hs⟩
theorem winN (X : Stand p l e R s m args below meth c T locs cells slots) (hx : p.tables.exec = Jvm.exec) (hlk : meth.locks = false) (eT : T.heap = h) {pc : Nat} {Ls : Array Slot} {z z' : Int32} {rest : List Value} {t : FieldType} (hret : meth.sig.returnType = some t) (ht : t = .boolean ∨ t = .byte ∨ t = .char ∨ t = .short) (hd : decode c.code pc = .ok (.ireturn, 1))
    (hc : cells ≤ C) (hs : slots ≤ S) (hz : nar t z = z') (hQ : Q (some (.int z')) h locs) : Win p.tables e below (PostQ s Q C S) (T.setTop (mkF m pc Ls (.int z :: rest))) := by
  subst eT hz
  obtain ⟨fs, hr, hrun, hended, hW, hsame⟩ := X.leave (v := some (.int (nar t z))) (fun h => by rw [hret] at h; cases h) hlk
  exact ⟨_, _, retN X hx hret ht hd hr, hrun, hended, _, _, rfl, hQ, ⟨_, rfl⟩, hW, hsame.mono hc hs⟩
theorem winL (X : Stand p l e R s m args below meth c T locs cells slots) (hx : p.tables.exec = Jvm.exec) (hlk : meth.locks = false) (eT : T.heap = h) {pc : Nat} {Ls : Array Slot} {z : Int64} (hret : meth.sig.returnType = some .long) (hd : decode c.code pc = .ok (.lreturn, 1))
    (hc : cells ≤ C) (hs : slots ≤ S) (hQ : Q (some (.long z)) h locs) : Win p.tables e below (PostQ s Q C S) (T.setTop (mkF m pc Ls [.long z])) := by
  subst eT
  obtain ⟨fs, hr, hrun, hended, hW, hsame⟩ := X.leave (v := some (.long z)) (fun h => by rw [hret] at h; cases h) hlk
  exact ⟨_, _, X.lreturnOut hx hret hd hr, hrun, hended, _, _, rfl, hQ, ⟨_, rfl⟩, hW, hsame.mono hc hs⟩
theorem winA (X : Stand p l e R s m args below meth c T locs cells slots) (hx : p.tables.exec = Jvm.exec) (hlk : meth.locks = false) (eT : T.heap = h) {pc : Nat} {Ls : Array Slot} {w : Value} {t : FieldType} (hret : meth.sig.returnType = some t) (ht : t.isReference = true) (hv : w.isRef = true) (hd : decode c.code pc = .ok (.areturn, 1))
    (hc : cells ≤ C) (hs : slots ≤ S) (hQ : Q (some w) h locs) : Win p.tables e below (PostQ s Q C S) (T.setTop (mkF m pc Ls [w])) := by
  subst eT
  obtain ⟨fs, hr, hrun, hended, hW, hsame⟩ := X.leave (v := some w) (fun h => by rw [hret] at h; cases h) hlk
  exact ⟨_, _, retA' X hx hret ht hv hd hr, hrun, hended, _, _, rfl, hQ, ⟨_, rfl⟩, hW, hsame.mono hc hs⟩
theorem winV (X : Stand p l e R s m args below meth c T locs cells slots) (hx : p.tables.exec = Jvm.exec) (hlk : meth.locks = false) (eT : T.heap = h) {pc : Nat} {Ls : Array Slot} (hret : meth.sig.returnType = none) (hd : decode c.code pc = .ok (.return_, 1))
    (hc : cells ≤ C) (hs : slots ≤ S) (hQ : Q none h locs) : Win p.tables e below (PostQ s Q C S) (T.setTop (mkF m pc Ls [])) := by
  subst eT
  obtain ⟨fs, hr, hrun, hended, hW, hsame⟩ := X.leave (v := none) (fun _ => rfl) hlk
  exact ⟨_, _, X.returnOut hx hret hd hr, hrun, hended, _, _, rfl, hQ, ⟨_, rfl⟩, hW, hsame.mono hc hs⟩
def PostQW (s : State) (Q : Option Value → Heap → List Loc → Prop) (C S : Nat) (u : State) (o : Outcome) : Prop := ∃ v L, o = .returned v ∧ Q v u.heap L ∧ ReturnedEndW s o u L C S
theorem winNW {vm0 : Vm} {k0 : Nat} (hS : s.Since vm0 k0) (hk : k0 ≤ h.size) (X : Stand p l e R (s.setVm vm0) m args below meth c T locs cells slots) (hx : p.tables.exec = Jvm.exec) (hlk : meth.locks = false) (eT : T.heap = h) {pc : Nat} {Ls : Array Slot} {z z' : Int32} {rest : List Value} {t : FieldType} (hret : meth.sig.returnType = some t) (ht : t = .boolean ∨ t = .byte ∨ t = .char ∨ t = .short) (hd : decode c.code pc = .ok (.ireturn, 1))
    (hc : cells ≤ C) (hs : slots ≤ S) (hz : nar t z = z') (hQ : Q (some (.int z')) h locs) : Win p.tables e below (PostQW s Q C S) (T.setTop (mkF m pc Ls (.int z :: rest))) := by
  subst eT hz
  obtain ⟨fs, hr, hrun, hended, h1, h2, h3, h4⟩ := X.leaveW hS hk (v := some (.int (nar t z))) (fun h => by rw [hret] at h; cases h) hlk
  exact ⟨_, _, retN X hx hret ht hd hr, hrun, hended, _, _, rfl, hQ, ⟨_, rfl⟩, h2, h3, h4.mono hc hs⟩
end Ret
section Steps
variable {tb : Tables} [Ours tb] {e : Env} {below : List Frame} {P : State → Outcome → Prop} {T : State} {m : MethodId} {c : Code} {pc pc' : Nat} {ls : Array Slot} {st : List Value}
theorem s_iloadN {k : Fin 4} {v : Int32} (h : At T m c below) (hx : tb.exec = Jvm.exec) (hd : decode c.code pc = .ok (.iload_n k, 1)) (hp : pc + 1 = pc') (hl : ls[k.val]? = some (.val (.int v))) (w : Win tb e below P (T.setTop (mkF m pc' ls (.int v :: st)))) : Win tb e below P (T.setTop (mkF m pc ls st)) := by
  subst hp; exact Win.go (fun _ k => XS.iloadN h hx rfl hd hl k) w
theorem s_iload {k : Nat} {v : Int32} (h : At T m c below) (hx : tb.exec = Jvm.exec) (hd : decode c.code pc = .ok (.iload k, 2)) (hp : pc + 2 = pc') (hl : ls[k]? = some (.val (.int v))) (w : Win tb e below P (T.setTop (mkF m pc' ls (.int v :: st)))) : Win tb e below P (T.setTop (mkF m pc ls st)) := by
  subst hp; exact Win.go (fun _ k => XS.iload h hx rfl hd hl k) w
theorem s_lloadN {k : Fin 4} {v : Int64} (h : At T m c below) (hx : tb.exec = Jvm.exec) (hd : decode c.code pc = .ok (.lload_n k, 1)) (hp : pc + 1 = pc') (hl : ls[k.val]? = some (.val (.long v))) (w : Win tb e below P (T.setTop (mkF m pc' ls (.long v :: st)))) : Win tb e below P (T.setTop (mkF m pc ls st)) := by
  subst hp; exact Win.go (fun _ k => XS.lloadN h hx rfl hd hl k) w
theorem s_lload {k : Nat} {v : Int64} (h : At T m c below) (hx : tb.exec = Jvm.exec) (hd : decode c.code pc = .ok (.lload k, 2)) (hp : pc + 2 = pc') (hl : ls[k]? = some (.val (.long v))) (w : Win tb e below P (T.setTop (mkF m pc' ls (.long v :: st)))) : Win tb e below P (T.setTop (mkF m pc ls st)) := by
  subst hp; exact Win.go (fun _ k => XS.lload h hx rfl hd hl k) w
theorem s_aloadN {k : Fin 4} {v : Value} (h : At T m c below) (hx : tb.exec = Jvm.exec) (hd : decode c.code pc = .ok (.aload_n k, 1)) (hp : pc + 1 = pc') (hl : ls[k.val]? = some (.val v)) (hv : v.isRef = true) (w : Win tb e below P (T.setTop (mkF m pc' ls (v :: st)))) : Win tb e below P (T.setTop (mkF m pc ls st)) := by
  subst hp; exact Win.go (fun _ k => XS.aloadN h hx rfl hd hl hv k) w
theorem s_aload {k : Nat} {v : Value} (h : At T m c below) (hx : tb.exec = Jvm.exec) (hd : decode c.code pc = .ok (.aload k, 2)) (hp : pc + 2 = pc') (hl : ls[k]? = some (.val v)) (hv : v.isRef = true) (w : Win tb e below P (T.setTop (mkF m pc' ls (v :: st)))) : Win tb e below P (T.setTop (mkF m pc ls st)) := by
  subst hp; exact Win.go (fun _ k => XS.aload h hx rfl hd hl hv k) w
theorem s_iadd {x y : Int32} (h : At T m c below) (hx : tb.exec = Jvm.exec) (hd : decode c.code pc = .ok (.iadd, 1)) (hp : pc + 1 = pc') (w : Win tb e below P (T.setTop (mkF m pc' ls (.int (x + y) :: st)))) : Win tb e below P (T.setTop (mkF m pc ls (.int y :: .int x :: st))) := by
  subst hp; exact Win.go (fun _ k => XS.iadd h hx rfl hd rfl k) w
theorem s_isub {x y : Int32} (h : At T m c below) (hx : tb.exec = Jvm.exec) (hd : decode c.code pc = .ok (.isub, 1)) (hp : pc + 1 = pc') (w : Win tb e below P (T.setTop (mkF m pc' ls (.int (x - y) :: st)))) : Win tb e below P (T.setTop (mkF m pc ls (.int y :: .int x :: st))) := by
  subst hp; exact Win.go (fun _ k => XS.isub h hx rfl hd rfl k) w
theorem s_imul {x y : Int32} (h : At T m c below) (hx : tb.exec = Jvm.exec) (hd : decode c.code pc = .ok (.imul, 1)) (hp : pc + 1 = pc') (w : Win tb e below P (T.setTop (mkF m pc' ls (.int (x * y) :: st)))) : Win tb e below P (T.setTop (mkF m pc ls (.int y :: .int x :: st))) := by
  subst hp; exact Win.go (fun _ k => XS.imul h hx rfl hd rfl k) w
theorem s_iand {x y : Int32} (h : At T m c below) (hx : tb.exec = Jvm.exec) (hd : decode c.code pc = .ok (.iand, 1)) (hp : pc + 1 = pc') (w : Win tb e below P (T.setTop (mkF m pc' ls (.int (x &&& y) :: st)))) : Win tb e below P (T.setTop (mkF m pc ls (.int y :: .int x :: st))) := by
  subst hp; exact Win.go (fun _ k => XS.iand h hx rfl hd rfl k) w
theorem s_ior {x y : Int32} (h : At T m c below) (hx : tb.exec = Jvm.exec) (hd : decode c.code pc = .ok (.ior, 1)) (hp : pc + 1 = pc') (w : Win tb e below P (T.setTop (mkF m pc' ls (.int (x ||| y) :: st)))) : Win tb e below P (T.setTop (mkF m pc ls (.int y :: .int x :: st))) := by
  subst hp; exact Win.go (fun _ k => XS.ior h hx rfl hd rfl k) w
theorem s_ixor {x y : Int32} (h : At T m c below) (hx : tb.exec = Jvm.exec) (hd : decode c.code pc = .ok (.ixor, 1)) (hp : pc + 1 = pc') (w : Win tb e below P (T.setTop (mkF m pc' ls (.int (x ^^^ y) :: st)))) : Win tb e below P (T.setTop (mkF m pc ls (.int y :: .int x :: st))) := by
  subst hp; exact Win.go (fun _ k => XS.ixor h hx rfl hd rfl k) w
theorem s_ladd {x y : Int64} (h : At T m c below) (hx : tb.exec = Jvm.exec) (hd : decode c.code pc = .ok (.ladd, 1)) (hp : pc + 1 = pc') (w : Win tb e below P (T.setTop (mkF m pc' ls (.long (x + y) :: st)))) : Win tb e below P (T.setTop (mkF m pc ls (.long y :: .long x :: st))) := by
  subst hp; exact Win.go (fun _ k => XS.ladd h hx rfl hd rfl k) w
theorem s_lsub {x y : Int64} (h : At T m c below) (hx : tb.exec = Jvm.exec) (hd : decode c.code pc = .ok (.lsub, 1)) (hp : pc + 1 = pc') (w : Win tb e below P (T.setTop (mkF m pc' ls (.long (x - y) :: st)))) : Win tb e below P (T.setTop (mkF m pc ls (.long y :: .long x :: st))) := by
  subst hp; exact Win.go (fun _ k => XS.lsub h hx rfl hd rfl k) w
theorem s_lmul {x y : Int64} (h : At T m c below) (hx : tb.exec = Jvm.exec) (hd : decode c.code pc = .ok (.lmul, 1)) (hp : pc + 1 = pc') (w : Win tb e below P (T.setTop (mkF m pc' ls (.long (x * y) :: st)))) : Win tb e below P (T.setTop (mkF m pc ls (.long y :: .long x :: st))) := by
  subst hp; exact Win.go (fun _ k => XS.lmul h hx rfl hd rfl k) w
theorem s_land {x y : Int64} (h : At T m c below) (hx : tb.exec = Jvm.exec) (hd : decode c.code pc = .ok (.land, 1)) (hp : pc + 1 = pc') (w : Win tb e below P (T.setTop (mkF m pc' ls (.long (x &&& y) :: st)))) : Win tb e below P (T.setTop (mkF m pc ls (.long y :: .long x :: st))) := by
  subst hp; exact Win.go (fun _ k => XS.land h hx rfl hd rfl k) w
theorem s_lor {x y : Int64} (h : At T m c below) (hx : tb.exec = Jvm.exec) (hd : decode c.code pc = .ok (.lor, 1)) (hp : pc + 1 = pc') (w : Win tb e below P (T.setTop (mkF m pc' ls (.long (x ||| y) :: st)))) : Win tb e below P (T.setTop (mkF m pc ls (.long y :: .long x :: st))) := by
  subst hp; exact Win.go (fun _ k => XS.lor h hx rfl hd rfl k) w
theorem s_lxor {x y : Int64} (h : At T m c below) (hx : tb.exec = Jvm.exec) (hd : decode c.code pc = .ok (.lxor, 1)) (hp : pc + 1 = pc') (w : Win tb e below P (T.setTop (mkF m pc' ls (.long (x ^^^ y) :: st)))) : Win tb e below P (T.setTop (mkF m pc ls (.long y :: .long x :: st))) := by
  subst hp; exact Win.go (fun _ k => XS.lxor h hx rfl hd rfl k) w
theorem s_iconst {i : Int} {z : Int32} (h : At T m c below) (hx : tb.exec = Jvm.exec) (hd : decode c.code pc = .ok (.iconst i, 1)) (hp : pc + 1 = pc') (hz : Int32.ofInt i = z) (w : Win tb e below P (T.setTop (mkF m pc' ls (.int z :: st)))) : Win tb e below P (T.setTop (mkF m pc ls st)) := by
  subst hp hz; exact Win.go (fun _ k => XS.iconst h hx rfl hd k) w
theorem s_bipush {i : Int} {z : Int32} (h : At T m c below) (hx : tb.exec = Jvm.exec) (hd : decode c.code pc = .ok (.bipush i, 2)) (hp : pc + 2 = pc') (hz : (Int8.ofInt i).toInt32 = z) (w : Win tb e below P (T.setTop (mkF m pc' ls (.int z :: st)))) : Win tb e below P (T.setTop (mkF m pc ls st)) := by
  subst hp hz; exact Win.go (fun _ k => XS.bipush h hx rfl hd k) w
theorem s_sipush {i : Int} {z : Int32} (h : At T m c below) (hx : tb.exec = Jvm.exec) (hd : decode c.code pc = .ok (.sipush i, 3)) (hp : pc + 3 = pc') (hz : (Int16.ofInt i).toInt32 = z) (w : Win tb e below P (T.setTop (mkF m pc' ls (.int z :: st)))) : Win tb e below P (T.setTop (mkF m pc ls st)) := by
  subst hp hz; exact Win.go (fun _ k => XS.sipush h hx rfl hd k) w
theorem s_lconst {i : Fin 2} {z : Int64} (h : At T m c below) (hx : tb.exec = Jvm.exec) (hd : decode c.code pc = .ok (.lconst i, 1)) (hp : pc + 1 = pc') (hz : Int64.ofNat i = z) (w : Win tb e below P (T.setTop (mkF m pc' ls (.long z :: st)))) : Win tb e below P (T.setTop (mkF m pc ls st)) := by
  subst hp hz; exact Win.go (fun _ k => XS.lconst h hx rfl hd k) w
theorem s_goto {o : Int} (h : At T m c below) (hx : tb.exec = Jvm.exec) (hd : decode c.code pc = .ok (.goto o, 3)) (ho : 0 ≤ (pc : Int) + o) (hp : ((pc : Int) + o).toNat = pc') (w : Win tb e below P (T.setTop (mkF m pc' ls st))) : Win tb e below P (T.setTop (mkF m pc ls st)) := by
  exact Win.go (fun _ k => XS.goto h hx rfl rfl hd ho hp k) w
theorem s_icmpYes {cd : ClassFile.Cond} {o : Int} {x y : Int32} (h : At T m c below) (hx : tb.exec = Jvm.exec) (hd : decode c.code pc = .ok (.if_icmp cd o, 3)) (hc : if_icmp.holds cd x y = true) (ho : 0 ≤ (pc : Int) + o) (hp : ((pc : Int) + o).toNat = pc') (w : Win tb e below P (T.setTop (mkF m pc' ls st))) : Win tb e below P (T.setTop (mkF m pc ls (.int y :: .int x :: st))) := by
  exact Win.go (fun _ k => XS.icmpYes h hx rfl rfl hd rfl hc ho hp k) w
theorem s_icmpNo {cd : ClassFile.Cond} {o : Int} {x y : Int32} (h : At T m c below) (hx : tb.exec = Jvm.exec) (hd : decode c.code pc = .ok (.if_icmp cd o, 3)) (hp : pc + 3 = pc') (hc : if_icmp.holds cd x y = false) (w : Win tb e below P (T.setTop (mkF m pc' ls st))) : Win tb e below P (T.setTop (mkF m pc ls (.int y :: .int x :: st))) := by
  subst hp; exact Win.go (fun _ k => XS.icmpNo h hx rfl hd rfl hc k) w
theorem s_ifYes {cd : ClassFile.Cond} {o : Int} {x : Int32} (h : At T m c below) (hx : tb.exec = Jvm.exec) (hd : decode c.code pc = .ok (.ifCond cd o, 3)) (hc : ifCond.holds cd x = true) (ho : 0 ≤ (pc : Int) + o) (hp : ((pc : Int) + o).toNat = pc') (w : Win tb e below P (T.setTop (mkF m pc' ls st))) : Win tb e below P (T.setTop (mkF m pc ls (.int x :: st))) := by
  exact Win.go (fun _ k => XS.ifYes h hx rfl rfl hd rfl hc ho hp k) w
theorem s_ifNo {cd : ClassFile.Cond} {o : Int} {x : Int32} (h : At T m c below) (hx : tb.exec = Jvm.exec) (hd : decode c.code pc = .ok (.ifCond cd o, 3)) (hp : pc + 3 = pc') (hc : ifCond.holds cd x = false) (w : Win tb e below P (T.setTop (mkF m pc' ls st))) : Win tb e below P (T.setTop (mkF m pc ls (.int x :: st))) := by
  subst hp; exact Win.go (fun _ k => XS.ifNo h hx rfl hd rfl hc k) w
theorem s_lcmp {x y : Int64} (h : At T m c below) (hx : tb.exec = Jvm.exec) (hd : decode c.code pc = .ok (.lcmp, 1)) (hp : pc + 1 = pc') (w : Win tb e below P (T.setTop (mkF m pc' ls (.int (lcmpW x y) :: st)))) : Win tb e below P (T.setTop (mkF m pc ls (.long y :: .long x :: st))) := by
  subst hp; exact Win.go (fun _ k => XS.lcmp h hx rfl hd rfl k) w
theorem s_istore {k : Nat} {x : Int32} {l' : Array Slot} (h : At T m c below) (hx : tb.exec = Jvm.exec) (hd : decode c.code pc = .ok (.istore k, 2)) (hp : pc + 2 = pc') (hl : storeLocals ls k (.int x) = some l') (w : Win tb e below P (T.setTop (mkF m pc' l' st))) : Win tb e below P (T.setTop (mkF m pc ls (.int x :: st))) := by
  subst hp; exact Win.go (fun _ k => XS.istore h hx rfl hd rfl hl k) w
theorem s_istoreN {k : Fin 4} {x : Int32} {l' : Array Slot} (h : At T m c below) (hx : tb.exec = Jvm.exec) (hd : decode c.code pc = .ok (.istore_n k, 1)) (hp : pc + 1 = pc') (hl : storeLocals ls k.val (.int x) = some l') (w : Win tb e below P (T.setTop (mkF m pc' l' st))) : Win tb e below P (T.setTop (mkF m pc ls (.int x :: st))) := by
  subst hp; exact Win.go (fun _ k => XS.istoreN h hx rfl hd rfl hl k) w
theorem s_lstore {k : Nat} {x : Int64} {l' : Array Slot} (h : At T m c below) (hx : tb.exec = Jvm.exec) (hd : decode c.code pc = .ok (.lstore k, 2)) (hp : pc + 2 = pc') (hl : storeLocals ls k (.long x) = some l') (w : Win tb e below P (T.setTop (mkF m pc' l' st))) : Win tb e below P (T.setTop (mkF m pc ls (.long x :: st))) := by
  subst hp; exact Win.go (fun _ k => XS.lstore h hx rfl hd rfl hl k) w
theorem s_lstoreN {k : Fin 4} {x : Int64} {l' : Array Slot} (h : At T m c below) (hx : tb.exec = Jvm.exec) (hd : decode c.code pc = .ok (.lstore_n k, 1)) (hp : pc + 1 = pc') (hl : storeLocals ls k.val (.long x) = some l') (w : Win tb e below P (T.setTop (mkF m pc' l' st))) : Win tb e below P (T.setTop (mkF m pc ls (.long x :: st))) := by
  subst hp; exact Win.go (fun _ k => XS.lstoreN h hx rfl hd rfl hl k) w
theorem s_astore {k : Nat} {x : Value} {l' : Array Slot} (h : At T m c below) (hx : tb.exec = Jvm.exec) (hd : decode c.code pc = .ok (.astore k, 2)) (hp : pc + 2 = pc') (hv : x.isRef = true) (hl : storeLocals ls k x = some l') (w : Win tb e below P (T.setTop (mkF m pc' l' st))) : Win tb e below P (T.setTop (mkF m pc ls (x :: st))) := by
  subst hp; exact Win.go (fun _ k => XS.astore h hx rfl hd rfl hv hl k) w
theorem s_astoreN {k : Fin 4} {x : Value} {l' : Array Slot} (h : At T m c below) (hx : tb.exec = Jvm.exec) (hd : decode c.code pc = .ok (.astore_n k, 1)) (hp : pc + 1 = pc') (hv : x.isRef = true) (hl : storeLocals ls k.val x = some l') (w : Win tb e below P (T.setTop (mkF m pc' l' st))) : Win tb e below P (T.setTop (mkF m pc ls (x :: st))) := by
  subst hp; exact Win.go (fun _ k => XS.astoreN h hx rfl hd rfl hv hl k) w
theorem s_dup {x : Value} (h : At T m c below) (hx : tb.exec = Jvm.exec) (hd : decode c.code pc = .ok (.dup, 1)) (hp : pc + 1 = pc') (hc : x.category = 1) (w : Win tb e below P (T.setTop (mkF m pc' ls (x :: x :: st)))) : Win tb e below P (T.setTop (mkF m pc ls (x :: st))) := by
  subst hp; exact Win.go (fun _ k => XS.dup h hx rfl hd rfl hc k) w
end Steps
/-- an array of ints by its places: place j holds f j -/
def AF (Z : State) (h : Heap) (a : Addr) (ty : FieldType) (n : Nat) (f : Int → Int32) : Prop := ∃ cl : Cell, Arr Z h a cl ty ∧ cl.slots.size = n ∧ ∀ j : Int32, 0 ≤ j.toInt → j.toInt < n → cl.slots[j.toNatClampNeg]? = some (.int (f j.toInt))
section AFs
variable {Z : State} {h h' : Heap} {a b : Addr} {ty : FieldType} {n : Nat} {f : Int → Int32} {ws : List Addr} {sl : Nat} {v : Value}
theorem AF.lt (F : AF Z h a ty n f) : a < h.size := by obtain ⟨c, A, -⟩ := F; exact A.lt
theorem AF.ext (F : AF Z h a ty n f) (E : Ext h h') : AF Z h' a ty n f := by obtain ⟨c, A, r⟩ := F; exact ⟨c, A.ext E, r⟩
theorem AF.other (F : AF Z h b ty n f) (W : Wr h h' a sl v) (q : b ≠ a) : AF Z h' b ty n f := by obtain ⟨c, A, r⟩ := F; exact ⟨c, A.other W q, r⟩
theorem AF.keep (F : AF Z h a ty n f) (K : Keep h h' ws) (q : a ∉ ws) : AF Z h' a ty n f := by obtain ⟨c, A, r⟩ := F; exact ⟨c, ⟨K.2.1 a c A.1 q, A.2⟩, r⟩
theorem AF.inb {c : Cell} {j : Int32} (S : c.slots.size = n) (q : 0 ≤ j.toInt ∧ j.toInt < n) : ¬ (j < 0 ∨ c.slots.size ≤ j.toNatClampNeg) := by
  rw [S, Int32.lt_iff_toInt_lt]; have e0 : (0 : Int32).toInt = 0 := rfl
  simp only [Int32.toNatClampNeg]; omega
def updF (f : Int → Int32) (j : Int) (v : Int32) : Int → Int32 := fun i => if i = j then v else f i
theorem updF_hit (f : Int → Int32) (j : Int) (v : Int32) : updF f j v j = v := if_pos rfl
theorem updF_miss {f : Int → Int32} {i j : Int} {v : Int32} (q : i ≠ j) : updF f j v i = f i := if_neg q
theorem AF.set {cl : Cell} {j v : Int32} (A : Arr Z h a cl ty) (S : cl.slots.size = n) (G : ∀ j : Int32, 0 ≤ j.toInt → j.toInt < n → cl.slots[j.toNatClampNeg]? = some (.int (f j.toInt))) (W : Wr h h' a j.toNatClampNeg (.int v)) (q : 0 ≤ j.toInt ∧ j.toInt < n) : AF Z h' a ty n (updF f j.toInt v) := by
  have e0 : (0 : Int32).toInt = 0 := rfl
  refine ⟨_, A.same W, by rw [sz_set]; exact S, fun k h0 h1 => ?_⟩
  by_cases e : k = j
  · subst e; rw [get_hit (AF.inb S q) rfl, updF_hit]
  · rw [get_miss (by rw [Int32.lt_iff_toInt_lt]; omega) (by rw [Int32.lt_iff_toInt_lt]; omega) e, updF_miss (fun z => e (Int32.toInt_inj.mp z))]; exact G k h0 h1
theorem AF.zero {k : ClassId} {z : Int32} (F : Arv Z h a k ty z [] (.int 0)) (q : z.toNatClampNeg = n) : AF Z h a ty n (fun _ => 0) := by
  obtain ⟨c, A, -, S, -, H, -⟩ := F
  refine ⟨c, A, S.trans q, fun j h0 h1 => ?_⟩
  have e : j.toNatClampNeg = j.toInt.toNat := rfl
  exact H _ (by rw [S, q, e]; omega)
theorem AF.ex {k : ClassId} {z : Int32} {vs : List Value} {dv : Value} (F : Arv Z h a k .byte z vs dv) (q : z.toNatClampNeg = n) : ∃ f, AF Z h a .byte n f := by
  obtain ⟨c, A, -, S, -, H, G⟩ := F
  refine ⟨fun i => match c.slots[i.toNat]? with | some (.int x) => x | _ => 0, c, A, S.trans q, fun j h0 h1 => ?_⟩
  have e : j.toNatClampNeg = j.toInt.toNat := rfl
  have hj : j.toInt.toNat < c.slots.size := by rw [S, q]; omega
  have e1 := H _ hj
  have e2 := G _ hj
  show c.slots[j.toInt.toNat]? = some (.int (match c.slots[j.toInt.toNat]? with | some (.int x) => x | _ => 0))
  cases hv : vs.getD j.toInt.toNat dv <;> rw [hv] at e1 e2 <;> first | (rw [e1]; done) | (exact absurd e2 (by simp [fits]))
/-- a byte array of length z -/
def BA (Z : State) (h : Heap) (a : Addr) (z : Int32) : Prop := ∃ (k : ClassId) (vs : List Value), Arv Z h a k .byte z vs (.int 0)
variable {z : Int32}
theorem BA.lt (F : BA Z h a z) : a < h.size := by obtain ⟨_, _, A⟩ := F; exact A.lt
theorem BA.ext (F : BA Z h a z) (E : Ext h h') : BA Z h' a z := by obtain ⟨k, vs, A⟩ := F; exact ⟨k, vs, A.ext E⟩
theorem BA.other (F : BA Z h b z) (W : Wr h h' a sl v) (q : b ≠ a) : BA Z h' b z := by obtain ⟨k, vs, A⟩ := F; exact ⟨k, vs, A.other W q⟩
theorem BA.keep (F : BA Z h a z) (K : Keep h h' ws) (q : a ∉ ws) : BA Z h' a z := by obtain ⟨k, vs, A⟩ := F; exact ⟨k, vs, A.keep K q⟩
theorem cpBA {p : Program} {l : Launch} {e : Env} {R : Room} {s : State} {m : MethodId} {args : Array Value} {below : List Frame} {meth : Method} {c : Code} {T : State} {locs : List Loc} {cells slots : Nat}
    (X : Stand p l e R s m args below meth c T locs cells slots) (hx : p.tables.exec = Jvm.exec) (hZ : Z.Warmed39 s.vm) {a0 : Array Value} {own : String} {index : Nat} (hown : s.vm.findClass own = some m.cls)
    (w1 : (Cond.methodLink own index Jvm.Stand.acN).before a0 Z = true) (w2 : (Cond.native Jvm.Stand.acN).before a0 Z = true) (w3 : (Cond.static Jvm.Stand.acN).before a0 Z = true) (w4 : (Cond.initialized "java/lang/System").before a0 Z = true) (eT : T.heap = h)
    {z' sp dp nn : Int32} (A : BA Z h a z) (B : BA Z h b z') (h1 : 0 ≤ sp.toInt) (h2 : 0 ≤ dp.toInt) (h3 : 0 ≤ nn.toInt) (h4 : sp.toInt + nn.toInt ≤ z.toInt) (h5 : dp.toInt + nn.toInt ≤ z'.toInt) {n0 : Nat} (N : Fr n0 locs) (ge : n0 ≤ b)
    {g : JFrame} (hg : g.method = m) (hsize : g.locals.size = c.maxLocals) {rest : List Value} (hs : g.stack = .int nn :: .int dp :: .ref b :: .int sp :: .ref a :: rest) (hd : decode c.code g.pc = .ok (.invokestatic index, 3))
    (hf : 1 ≤ R.frames) {W : Nat} (hW : 2 * g.monitorRoom + (rest.map fun v => v.category).sum ≤ W) (hlo : W + (nativeFrameWords "java/lang/System" "arraycopy" 5 + 11) ≤ R.locals) :
    ∃ T' h' L, Stand p l e R s m args below meth c T' L cells slots ∧ T'.heap = h' ∧ Fr n0 L ∧ Keep h h' [b] ∧ BA Z h' b z' ∧
      ∀ target, Steps p.tables e below (T'.setTop { g with pc := g.pc + 3, stack := rest }) target → Steps p.tables e below (T.setTop g) target := by
  have e0 : (0 : Int32).toInt = 0 := rfl
  obtain ⟨k, vs, A⟩ := A
  obtain ⟨k', vd, B⟩ := B
  have B' := B.pad (pad_rep vd (.int 0) z'.toNatClampNeg)
  obtain ⟨T', h', L, X', e', N', K, B2, st⟩ := cpA X hx hZ hown w1 w2 w3 w4 eT A B' (Or.inl ⟨rfl, rfl⟩) (by rw [Int32.lt_iff_toInt_lt]; omega) (by rw [Int32.lt_iff_toInt_lt]; omega) (by rw [Int32.lt_iff_toInt_lt]; omega) (by simp only [Int32.toNatClampNeg]; omega) (by simp only [Int32.toNatClampNeg]; omega) rfl (by simp only [List.length_append, List.length_replicate, Int32.toNatClampNeg]; omega) N ge hg hsize hs hd hf hW hlo
  exact ⟨T', h', L, X', e', N', K, ⟨k', _, B2⟩, st⟩
end AFs
theorem own_selPriv {s : State} {args : Array Value} {y y' : MethodName} (hn : y.cls = y'.cls) (w : (Cond.selects y'.cls y' y').before args s = true) (hpriv : s.PrivateAt y) (hinst : (Cond.instanceMethod y).before args s = true) (hy : y.cls ≠ "java/lang/invoke/MethodHandle" ∧ y.cls ≠ "java/lang/invoke/VarHandle") : (Cond.selects y.cls y y).before args s = true := by
  obtain ⟨c, r, m, h1, -, h3, -, k, h5, h6⟩ := Cond.selects_spec w
  have h7 := findClass_of_methodNamed h3
  cases h1.symm.trans h7
  exact selects_self_of_private (by rw [hn]; exact h7) h5 h6 hpriv hinst hy
theorem own_lremEq (x y : Int64) : x - (x / y) * y = x % y := by
  refine Int64.toInt_inj.mp ?_
  have h1 := rng64 (x % y)
  have e : x.toInt - x.toInt.tdiv y.toInt * y.toInt = (x % y).toInt := by rw [Int64.toInt_mod, Int.tmod_def, Int.mul_comm]
  rw [Int64.toInt_sub, Int64.toInt_mul, Int64.toInt_div, Int.bmod_mul_bmod, Int.sub_bmod_bmod, e]
  exact Int.bmod_eq_of_le_mul_two (by omega) (by omega)
theorem lremM {p : Program} {l : Launch} {e : Env} {R : Room} {s : State} {m : MethodId} {args : Array Value} {below : List Frame} {meth : Method} {c : Code} {T : State} {locs : List Loc} {cells slots : Nat} {g : JFrame} {target : State} (X : Stand p l e R s m args below meth c T locs cells slots) (hx : p.tables.exec = Jvm.exec) (hg : g.method = m) {x y : Int64} {rest : List Value} (hd : decode c.code g.pc = .ok (.lrem, 1)) (hs : g.stack = .long y :: .long x :: rest) (hy : y ≠ 0)
    (hr : Steps p.tables e below (T.setTop { g with pc := g.pc + 1, stack := .long (x % y) :: rest }) target) : Steps p.tables e below (T.setTop g) target :=
  XS.lrem X.here hx hg hd hs hy (by rw [own_lremEq]; exact hr)
/-! comparisons by the numbers -/
theorem tltI {x y : Int32} (h : x.toInt < y.toInt) : if_icmp.holds .lt x y = true ∧ if_icmp.holds .ge x y = false ∧ if_icmp.holds .gt y x = true ∧ if_icmp.holds .le y x = false := tlt (Int32.lt_iff_toInt_lt.mpr h)
theorem fltI {x y : Int32} (h : ¬ x.toInt < y.toInt) : if_icmp.holds .lt x y = false ∧ if_icmp.holds .ge x y = true ∧ if_icmp.holds .gt y x = false ∧ if_icmp.holds .le y x = true := flt (fun q => h (Int32.lt_iff_toInt_lt.mp q))
theorem teqI {x y : Int32} (h : x.toInt = y.toInt) : if_icmp.holds .eq x y = true ∧ if_icmp.holds .ne x y = false := teq (Int32.toInt_inj.mp h)
theorem feqI {x y : Int32} (h : ¬ x.toInt = y.toInt) : if_icmp.holds .eq x y = false ∧ if_icmp.holds .ne x y = true := feq (fun q => h (congrArg _ q))
theorem tltZ {x y : Int32} (h : x.toInt < y.toInt) : (y = 0 → ifCond.holds .lt x = true ∧ ifCond.holds .ge x = false) ∧ (x = 0 → ifCond.holds .gt y = true ∧ ifCond.holds .le y = false) :=
  ⟨fun q => by subst q; exact ⟨(if0 _ _).trans (tltI h).1, (if0 _ _).trans (tltI h).2.1⟩, fun q => by subst q; exact ⟨(if0 _ _).trans (tltI h).2.2.1, (if0 _ _).trans (tltI h).2.2.2⟩⟩
theorem tltL {x y : Int64} (h : x.toInt < y.toInt) : ifCond.holds .lt (lcmpW x y) = true ∧ ifCond.holds .ge (lcmpW x y) = false ∧ ifCond.holds .gt (lcmpW y x) = true ∧ ifCond.holds .le (lcmpW y x) = false :=
  have h' := Int64.lt_iff_toInt_lt.mpr h
  ⟨(if0 _ _).trans (tlt ((lw_lt x y).mpr h')).1, (if0 _ _).trans (tlt ((lw_lt x y).mpr h')).2.1, (if0 _ _).trans (tlt ((lw_gt y x).mpr h')).2.2.1, (if0 _ _).trans (tlt ((lw_gt y x).mpr h')).2.2.2⟩
theorem fltL {x y : Int64} (h : ¬ x.toInt < y.toInt) : ifCond.holds .lt (lcmpW x y) = false ∧ ifCond.holds .ge (lcmpW x y) = true ∧ ifCond.holds .gt (lcmpW y x) = false ∧ ifCond.holds .le (lcmpW y x) = true :=
  have h1 : ¬ lcmpW x y < 0 := fun q => h (Int64.lt_iff_toInt_lt.mp ((lw_lt x y).mp q))
  have h2 : ¬ 0 < lcmpW y x := fun q => h (Int64.lt_iff_toInt_lt.mp ((lw_gt y x).mp q))
  ⟨(if0 _ _).trans (flt h1).1, (if0 _ _).trans (flt h1).2.1, (if0 _ _).trans (flt h2).2.2.1, (if0 _ _).trans (flt h2).2.2.2⟩
theorem teqL {x y : Int64} (h : x.toInt = y.toInt) : ifCond.holds .eq (lcmpW x y) = true ∧ ifCond.holds .ne (lcmpW x y) = false :=
  have h' := (lw_eq x y).mpr (Int64.toInt_inj.mp h)
  ⟨(if0 _ _).trans (teq h').1, (if0 _ _).trans (teq h').2⟩
theorem feqL {x y : Int64} (h : ¬ x.toInt = y.toInt) : ifCond.holds .eq (lcmpW x y) = false ∧ ifCond.holds .ne (lcmpW x y) = true :=
  have h' : ¬ lcmpW x y = 0 := fun q => h (congrArg _ ((lw_eq x y).mp q))
  ⟨(if0 _ _).trans (feq h').1, (if0 _ _).trans (feq h').2⟩
end Jvm.OwnWalk
namespace Jvm.Pilot.@@N@@
open Jvm Jvm.ClassFile Sem Op Lib Jvm.Free Jvm.Stand Jvm.LawKit Jvm.RoadKit Bundle Jvm.OwnWalk Jvm.Pilot.@@N@@.Jvm.D
theorem own_or0 (x y : Int64) : (((0 : Int64) ||| x) ||| y).toInt = 0 ↔ (x.toInt = 0 ∧ y.toInt = 0) := by
  have e : ∀ z : Int64, z.toInt = 0 ↔ z.toBitVec = 0#64 := fun z => by
    constructor
    · intro q
      have : z = 0 := Int64.toInt_inj.mp q
      rw [this]; rfl
    · intro q
      have : z = 0 := Int64.toBitVec_inj.mp q
      rw [this]; rfl
  rw [e, e, e, Int64.toBitVec_or, Int64.toBitVec_or]
  show (0#64 ||| x.toBitVec) ||| y.toBitVec = 0#64 ↔ _
  rw [BitVec.zero_or]
  exact BitVec.or_eq_zero_iff
theorem d1_0 : decode prog_2_method_9_code 0 = .ok (.lconst 0, 1) := by decide +kernel
theorem d1_1 : decode prog_2_method_9_code 1 = .ok (.lstore 4, 2) := by decide +kernel
theorem d1_3 : decode prog_2_method_9_code 3 = .ok (.iconst 0, 1) := by decide +kernel
theorem d1_4 : decode prog_2_method_9_code 4 = .ok (.istore 6, 2) := by decide +kernel
theorem d1_6 : decode prog_2_method_9_code 6 = .ok (.iload 6, 2) := by decide +kernel
theorem d1_8 : decode prog_2_method_9_code 8 = .ok (.aload_n 1, 1) := by decide +kernel
theorem d1_9 : decode prog_2_method_9_code 9 = .ok (.arraylength, 1) := by decide +kernel
theorem d1_10 : decode prog_2_method_9_code 10 = .ok (.if_icmp .ge 36, 3) := by decide +kernel
theorem d1_46 : decode prog_2_method_9_code 46 = .ok (.lload 4, 2) := by decide +kernel
theorem d1_48 : decode prog_2_method_9_code 48 = .ok (.lconst 0, 1) := by decide +kernel
theorem d1_49 : decode prog_2_method_9_code 49 = .ok (.lcmp, 1) := by decide +kernel
theorem d1_50 : decode prog_2_method_9_code 50 = .ok (.ifCond .eq 7, 3) := by decide +kernel
theorem d1_57 : decode prog_2_method_9_code 57 = .ok (.iconst 0, 1) := by decide +kernel
theorem d1_58 : decode prog_2_method_9_code 58 = .ok (.ireturn, 1) := by decide +kernel
theorem pn_1 : plainName "com/example/faithful_deputy/faithfuldeputy/Bits" = true := by first | (simp [plainName, overriddenIn]; done) | decide +kernel
theorem ef_1_0 (m : MethodId) (a : Addr) (b : Addr) (oc : Addr) (od : Addr) : entryFrame m #[(.ref a), (.ref b), (.ref oc), (.ref od)] 7 = mkF m 0 #[.val (.ref a), .val (.ref b), .val (.ref oc), .val (.ref od), .unset, .unset, .unset] [] := by first | (simp [entryFrame, mkF, argsToLocals, Value.category]; done) | rfl
def Q1_0 (Z : State) (a : Addr) (b : Addr) (oc : Addr) (od : Addr) (ka : ClassId) (kb : ClassId) (koc : ClassId) (kod : ClassId) (h0 : Heap) (n0 : Nat) (v : Option Value) (h : Heap) (L : List Loc) : Prop := Fr n0 L ∧ h = h0 ∧ v = some (.int (0 : Int32))
set_option maxRecDepth 65536 in
set_option maxHeartbeats 40000000 in
theorem rm1_0 (l : Launch) (Z : State) (a0 : Array Value) (hw : ∀ d ∈ tables_1, d.before a0 Z = true) (ws : List Jvm.Cond) (a : Addr) (b : Addr) (oc : Addr) (od : Addr) (ka : ClassId) (kb : ClassId) (koc : ClassId) (kod : ClassId) (h0 : Heap) (n0 : Nat) (Zs : n0 ≤ h0.size) (V_a : Arv Z h0 a ka .long (0 : Int32) [] (.long (0 : Int64))) (V_b : Arv Z h0 b kb .long (0 : Int32) [] (.long (0 : Int64))) (V_oc : Arv Z h0 oc koc .long (0 : Int32) [] (.long (0 : Int64))) (V_od : Arv Z h0 od kod .long (0 : Int32) [] (.long (0 : Int64))) (g_a : n0 ≤ a) (ne_b_a : b ≠ a) (ne_oc_a : oc ≠ a) (ne_od_a : od ≠ a) :
    MetFree l (⟨"com/example/faithful_deputy/faithfuldeputy/Bits", "intersection", "([J[J[J[J)Z"⟩ : MethodName) (head1 (Jvm.Cond.code (⟨"com/example/faithful_deputy/faithfuldeputy/Bits", "intersection", "([J[J[J[J)Z"⟩ : MethodName) prog_2_method_9_code 7 (some .boolean) :: ws) ({ frames := 0, cells := 0, slots := 0, locals := 0 } : Room)) (fun as' U => as' = #[(.ref a), (.ref b), (.ref oc), (.ref od)] ∧ Z.Warmed39 U.vm ∧ U.heap = h0) (fun _ _ _ _ _ => True) (fun _ U o U' => ∃ v L, o = .returned v ∧ Q1_0 Z a b oc od ka kb koc kod h0 n0 v U'.heap L ∧ FrameEnd U o U' L ({ frames := 0, cells := 0, slots := 0, locals := 0 } : Room).cells ({ frames := 0, cells := 0, slots := 0, locals := 0 } : Room).slots) := by
  refine MetFree.of_bodySF (plainFor_of_name pn_1) hisR ?_
  intro p e s m args below meth c s₁ Bd hml0 hP hK
  obtain ⟨rfl, hZ, hh⟩ := hP
  have hx := Bd.exec
  have hby := Bd.bytes
  have hml : c.maxLocals = 7 := hml0
  have hown : s.vm.findClass "com/example/faithful_deputy/faithfuldeputy/Bits" = some m.cls := findClass_of_methodNamed Bd.named
  have hnm := (name_of_methodNamed Bd.named Bd.method).1
  have hlk : meth.locks = false := Bd.notSynchronized
  have X0 : Stand p l e ({ frames := 0, cells := 0, slots := 0, locals := 0 } : Room) s m #[(.ref a), (.ref b), (.ref oc), (.ref od)] below meth c s₁ [] 0 0 := Stand.of_body Bd
  have e0 : s₁.heap = h0 := by rw [← hh, Bd.state]; rfl
  have Nf := Fr.nil n0
  refine (?_ : Win p.tables e below (PostQ s (Q1_0 Z a b oc od ka kb koc kod h0 n0) ({ frames := 0, cells := 0, slots := 0, locals := 0 } : Room).cells ({ frames := 0, cells := 0, slots := 0, locals := 0 } : Room).slots) (s₁.setTop (entryFrame m #[(.ref a), (.ref b), (.ref oc), (.ref od)] 7)))
  rw [ef_1_0]
  have lt_a : a < h0.size := V_a.lt
  have lt_b : b < h0.size := V_b.lt
  have lt_oc : oc < h0.size := V_oc.lt
  have lt_od : od < h0.size := V_od.lt
  show Win p.tables e below _ (s₁.setTop (mkF m 0 #[.val (.ref a), .val (.ref b), .val (.ref oc), .val (.ref od), .unset, .unset, .unset] []))
  refine s_lconst (pc' := 1) (z := (0 : Int64)) X0.here hx (hb hby d1_0) rfl rfl ?_
  refine s_lstore (pc' := 3) (l' := #[.val (.ref a), .val (.ref b), .val (.ref oc), .val (.ref od), .val (.long (0 : Int64)), .second, .unset]) X0.here hx (hb hby d1_1) rfl rfl ?_
  refine s_iconst (pc' := 4) (z := (0 : Int32)) X0.here hx (hb hby d1_3) rfl rfl ?_
  refine s_istore (pc' := 6) (l' := #[.val (.ref a), .val (.ref b), .val (.ref oc), .val (.ref od), .val (.long (0 : Int64)), .second, .val (.int (0 : Int32))]) X0.here hx (hb hby d1_4) rfl rfl ?_
  refine s_iload (pc' := 8) X0.here hx (hb hby d1_6) rfl rfl ?_
  refine s_aloadN (pc' := 9) X0.here hx (hb hby d1_8) rfl rfl rfl ?_
  obtain ⟨cl_1, Ar_1, q_1, S_1, N_1, H_1, G_1⟩ := id V_b
  refine Win.go (fun _ k => X0.arraylength hx (by rw [e0]; exact Ar_1.1) (State.isArrayOf_alike hZ.alike Ar_1.2.1) (g := (mkF m 9 #[.val (.ref a), .val (.ref b), .val (.ref oc), .val (.ref od), .val (.long (0 : Int64)), .second, .val (.int (0 : Int32))] [(.ref b), (.int (0 : Int32))])) rfl rfl (hb hby d1_9) _ k) ?_
  rw [len_of S_1 N_1]
  clear Ar_1 q_1 S_1 N_1 H_1 G_1
  show Win p.tables e below _ (s₁.setTop (mkF m 10 #[.val (.ref a), .val (.ref b), .val (.ref oc), .val (.ref od), .val (.long (0 : Int64)), .second, .val (.int (0 : Int32))] [(.int (0 : Int32)), (.int (0 : Int32))]))
  refine s_icmpYes (pc' := 46) X0.here hx (hb hby d1_10) (fltI (x := (0 : Int32)) (y := (0 : Int32)) (by decide)).2.1 (by decide) (by decide) ?_
  refine s_lload (pc' := 48) X0.here hx (hb hby d1_46) rfl rfl ?_
  refine s_lconst (pc' := 49) (z := (0 : Int64)) X0.here hx (hb hby d1_48) rfl rfl ?_
  refine s_lcmp (pc' := 50) X0.here hx (hb hby d1_49) rfl ?_
  refine s_ifYes (pc' := 57) X0.here hx (hb hby d1_50) (teqL (x := (0 : Int64)) (y := (0 : Int64)) (by decide)).1 (by decide) (by decide) ?_
  refine s_iconst (pc' := 58) (z := (0 : Int32)) X0.here hx (hb hby d1_57) rfl rfl ?_
  refine winN X0 hx hlk e0 (t := .boolean) Bd.returns (by simp) (hb hby d1_58) (by decide) (by decide) (z' := (0 : Int32)) rfl ?_
  exact ⟨Nf, rfl, rfl⟩
theorem d1_13 : decode prog_2_method_9_code 13 = .ok (.aload_n 0, 1) := by decide +kernel
theorem d1_14 : decode prog_2_method_9_code 14 = .ok (.iload 6, 2) := by decide +kernel
theorem d1_16 : decode prog_2_method_9_code 16 = .ok (.aload_n 1, 1) := by decide +kernel
theorem d1_17 : decode prog_2_method_9_code 17 = .ok (.iload 6, 2) := by decide +kernel
theorem d1_19 : decode prog_2_method_9_code 19 = .ok (.laload, 1) := by decide +kernel
theorem d1_20 : decode prog_2_method_9_code 20 = .ok (.aload_n 2, 1) := by decide +kernel
theorem d1_21 : decode prog_2_method_9_code 21 = .ok (.iload 6, 2) := by decide +kernel
theorem d1_23 : decode prog_2_method_9_code 23 = .ok (.laload, 1) := by decide +kernel
theorem d1_24 : decode prog_2_method_9_code 24 = .ok (.land, 1) := by decide +kernel
theorem d1_25 : decode prog_2_method_9_code 25 = .ok (.aload_n 3, 1) := by decide +kernel
theorem d1_26 : decode prog_2_method_9_code 26 = .ok (.iload 6, 2) := by decide +kernel
theorem d1_28 : decode prog_2_method_9_code 28 = .ok (.laload, 1) := by decide +kernel
theorem d1_29 : decode prog_2_method_9_code 29 = .ok (.land, 1) := by decide +kernel
theorem d1_30 : decode prog_2_method_9_code 30 = .ok (.lastore, 1) := by decide +kernel
theorem d1_31 : decode prog_2_method_9_code 31 = .ok (.lload 4, 2) := by decide +kernel
theorem d1_33 : decode prog_2_method_9_code 33 = .ok (.aload_n 0, 1) := by decide +kernel
theorem d1_34 : decode prog_2_method_9_code 34 = .ok (.iload 6, 2) := by decide +kernel
theorem d1_36 : decode prog_2_method_9_code 36 = .ok (.laload, 1) := by decide +kernel
theorem d1_37 : decode prog_2_method_9_code 37 = .ok (.lor, 1) := by decide +kernel
theorem d1_38 : decode prog_2_method_9_code 38 = .ok (.lstore 4, 2) := by decide +kernel
theorem d1_40 : decode prog_2_method_9_code 40 = .ok (.iinc 6 1, 3) := by decide +kernel
theorem d1_43 : decode prog_2_method_9_code 43 = .ok (.goto (-37), 3) := by decide +kernel
theorem d1_53 : decode prog_2_method_9_code 53 = .ok (.iconst 1, 1) := by decide +kernel
theorem d1_54 : decode prog_2_method_9_code 54 = .ok (.goto 4, 3) := by decide +kernel
theorem ef_1_2 (m : MethodId) (a : Addr) (b : Addr) (oc : Addr) (od : Addr) : entryFrame m #[(.ref a), (.ref b), (.ref oc), (.ref od)] 7 = mkF m 0 #[.val (.ref a), .val (.ref b), .val (.ref oc), .val (.ref od), .unset, .unset, .unset] [] := by first | (simp [entryFrame, mkF, argsToLocals, Value.category]; done) | rfl
def Q1_2 (Z : State) (a : Addr) (b : Addr) (oc : Addr) (od : Addr) (ka : ClassId) (a0 : Int64) (a1 : Int64) (kb : ClassId) (b0 : Int64) (b1 : Int64) (koc : ClassId) (oc0 : Int64) (oc1 : Int64) (kod : ClassId) (od0 : Int64) (od1 : Int64) (h0 : Heap) (n0 : Nat) (v : Option Value) (h : Heap) (L : List Loc) : Prop := Fr n0 L ∧ Keep h0 h [a] ∧ Arv Z h a ka .long (2 : Int32) [(.long ((b0 &&& oc0) &&& od0)), (.long ((b1 &&& oc1) &&& od1))] (.long (0 : Int64)) ∧ (∃ z : Int32, v = some (.int z) ∧ ((z.toInt = 1 ∧ (¬ ((((0 : Int64) ||| ((b0 &&& oc0) &&& od0)) ||| ((b1 &&& oc1) &&& od1))).toInt = 0)) ∨ (z.toInt = 0 ∧ ¬ (¬ ((((0 : Int64) ||| ((b0 &&& oc0) &&& od0)) ||| ((b1 &&& oc1) &&& od1))).toInt = 0))))
set_option maxRecDepth 65536 in
set_option maxHeartbeats 40000000 in
theorem rm1_2 (l : Launch) (Z : State) (a0 : Array Value) (hw : ∀ d ∈ tables_1, d.before a0 Z = true) (ws : List Jvm.Cond) (a : Addr) (b : Addr) (oc : Addr) (od : Addr) (ka : ClassId) (a0 : Int64) (a1 : Int64) (kb : ClassId) (b0 : Int64) (b1 : Int64) (koc : ClassId) (oc0 : Int64) (oc1 : Int64) (kod : ClassId) (od0 : Int64) (od1 : Int64) (h0 : Heap) (n0 : Nat) (Zs : n0 ≤ h0.size) (V_a : Arv Z h0 a ka .long (2 : Int32) [(.long a0), (.long a1)] (.long (0 : Int64))) (V_b : Arv Z h0 b kb .long (2 : Int32) [(.long b0), (.long b1)] (.long (0 : Int64))) (V_oc : Arv Z h0 oc koc .long (2 : Int32) [(.long oc0), (.long oc1)] (.long (0 : Int64))) (V_od : Arv Z h0 od kod .long (2 : Int32) [(.long od0), (.long od1)] (.long (0 : Int64))) (g_a : n0 ≤ a) (ne_b_a : b ≠ a) (ne_oc_a : oc ≠ a) (ne_od_a : od ≠ a) :
    MetFree l (⟨"com/example/faithful_deputy/faithfuldeputy/Bits", "intersection", "([J[J[J[J)Z"⟩ : MethodName) (head1 (Jvm.Cond.code (⟨"com/example/faithful_deputy/faithfuldeputy/Bits", "intersection", "([J[J[J[J)Z"⟩ : MethodName) prog_2_method_9_code 7 (some .boolean) :: ws) ({ frames := 0, cells := 0, slots := 0, locals := 0 } : Room)) (fun as' U => as' = #[(.ref a), (.ref b), (.ref oc), (.ref od)] ∧ Z.Warmed39 U.vm ∧ U.heap = h0) (fun _ _ _ _ _ => True) (fun _ U o U' => ∃ v L, o = .returned v ∧ Q1_2 Z a b oc od ka a0 a1 kb b0 b1 koc oc0 oc1 kod od0 od1 h0 n0 v U'.heap L ∧ FrameEnd U o U' L ({ frames := 0, cells := 0, slots := 0, locals := 0 } : Room).cells ({ frames := 0, cells := 0, slots := 0, locals := 0 } : Room).slots) := by
  refine MetFree.of_bodySF (plainFor_of_name pn_1) hisR ?_
  intro p e s m args below meth c s₁ Bd hml0 hP hK
  obtain ⟨rfl, hZ, hh⟩ := hP
  have hx := Bd.exec
  have hby := Bd.bytes
  have hml : c.maxLocals = 7 := hml0
  have hown : s.vm.findClass "com/example/faithful_deputy/faithfuldeputy/Bits" = some m.cls := findClass_of_methodNamed Bd.named
  have hnm := (name_of_methodNamed Bd.named Bd.method).1
  have hlk : meth.locks = false := Bd.notSynchronized
  have X0 : Stand p l e ({ frames := 0, cells := 0, slots := 0, locals := 0 } : Room) s m #[(.ref a), (.ref b), (.ref oc), (.ref od)] below meth c s₁ [] 0 0 := Stand.of_body Bd
  have e0 : s₁.heap = h0 := by rw [← hh, Bd.state]; rfl
  have Nf := Fr.nil n0
  refine (?_ : Win p.tables e below (PostQ s (Q1_2 Z a b oc od ka a0 a1 kb b0 b1 koc oc0 oc1 kod od0 od1 h0 n0) ({ frames := 0, cells := 0, slots := 0, locals := 0 } : Room).cells ({ frames := 0, cells := 0, slots := 0, locals := 0 } : Room).slots) (s₁.setTop (entryFrame m #[(.ref a), (.ref b), (.ref oc), (.ref od)] 7)))
  rw [ef_1_2]
  have Kp : Keep h0 h0 [a] := Keep.refl h0 _
  have lt_a : a < h0.size := V_a.lt
  have lt_b : b < h0.size := V_b.lt
  have lt_oc : oc < h0.size := V_oc.lt
  have lt_od : od < h0.size := V_od.lt
  show Win p.tables e below _ (s₁.setTop (mkF m 0 #[.val (.ref a), .val (.ref b), .val (.ref oc), .val (.ref od), .unset, .unset, .unset] []))
  refine s_lconst (pc' := 1) (z := (0 : Int64)) X0.here hx (hb hby d1_0) rfl rfl ?_
  refine s_lstore (pc' := 3) (l' := #[.val (.ref a), .val (.ref b), .val (.ref oc), .val (.ref od), .val (.long (0 : Int64)), .second, .unset]) X0.here hx (hb hby d1_1) rfl rfl ?_
  refine s_iconst (pc' := 4) (z := (0 : Int32)) X0.here hx (hb hby d1_3) rfl rfl ?_
  refine s_istore (pc' := 6) (l' := #[.val (.ref a), .val (.ref b), .val (.ref oc), .val (.ref od), .val (.long (0 : Int64)), .second, .val (.int (0 : Int32))]) X0.here hx (hb hby d1_4) rfl rfl ?_
  refine s_iload (pc' := 8) X0.here hx (hb hby d1_6) rfl rfl ?_
  refine s_aloadN (pc' := 9) X0.here hx (hb hby d1_8) rfl rfl rfl ?_
  obtain ⟨cl_2, Ar_2, q_2, S_2, N_2, H_2, G_2⟩ := id V_b
  refine Win.go (fun _ k => X0.arraylength hx (by rw [e0]; exact Ar_2.1) (State.isArrayOf_alike hZ.alike Ar_2.2.1) (g := (mkF m 9 #[.val (.ref a), .val (.ref b), .val (.ref oc), .val (.ref od), .val (.long (0 : Int64)), .second, .val (.int (0 : Int32))] [(.ref b), (.int (0 : Int32))])) rfl rfl (hb hby d1_9) _ k) ?_
  rw [len_of S_2 N_2]
  clear Ar_2 q_2 S_2 N_2 H_2 G_2
  show Win p.tables e below _ (s₁.setTop (mkF m 10 #[.val (.ref a), .val (.ref b), .val (.ref oc), .val (.ref od), .val (.long (0 : Int64)), .second, .val (.int (0 : Int32))] [(.int (2 : Int32)), (.int (0 : Int32))]))
  refine s_icmpNo (pc' := 13) X0.here hx (hb hby d1_10) rfl (tltI (x := (0 : Int32)) (y := (2 : Int32)) (by decide)).2.1 ?_
  refine s_aloadN (pc' := 14) X0.here hx (hb hby d1_13) rfl rfl rfl ?_
  refine s_iload (pc' := 16) X0.here hx (hb hby d1_14) rfl rfl ?_
  refine s_aloadN (pc' := 17) X0.here hx (hb hby d1_16) rfl rfl rfl ?_
  refine s_iload (pc' := 19) X0.here hx (hb hby d1_17) rfl rfl ?_
  obtain ⟨cl_3, Ar_3, q_3, S_3, N_3, H_3, G_3⟩ := id V_b
  have hi_3 : ¬ ((0 : Int32) < 0 ∨ cl_3.slots.size ≤ ((0 : Int32)).toNatClampNeg) := inb_of S_3 ⟨by decide, by decide⟩
  refine Win.go (fun _ k => X0.laload hx (j := (0 : Int32)) (v := (.long b0)) (by rw [e0]; exact Ar_3.1) (State.isArrayOf_alike hZ.alike Ar_3.2.1) Ar_3.2.2 hi_3 (H_3.at hi_3 rfl) (g := (mkF m 19 #[.val (.ref a), .val (.ref b), .val (.ref oc), .val (.ref od), .val (.long (0 : Int64)), .second, .val (.int (0 : Int32))] [(.int (0 : Int32)), (.ref b), (.int (0 : Int32)), (.ref a)])) rfl rfl (hb hby d1_19) _ k) ?_
  show Win p.tables e below _ (s₁.setTop (mkF m 20 #[.val (.ref a), .val (.ref b), .val (.ref oc), .val (.ref od), .val (.long (0 : Int64)), .second, .val (.int (0 : Int32))] [(.long b0), (.int (0 : Int32)), (.ref a)]))
  clear Ar_3 q_3 S_3 N_3 H_3 G_3 hi_3
  refine s_aloadN (pc' := 21) X0.here hx (hb hby d1_20) rfl rfl rfl ?_
  refine s_iload (pc' := 23) X0.here hx (hb hby d1_21) rfl rfl ?_
  obtain ⟨cl_4, Ar_4, q_4, S_4, N_4, H_4, G_4⟩ := id V_oc
  have hi_4 : ¬ ((0 : Int32) < 0 ∨ cl_4.slots.size ≤ ((0 : Int32)).toNatClampNeg) := inb_of S_4 ⟨by decide, by decide⟩
  refine Win.go (fun _ k => X0.laload hx (j := (0 : Int32)) (v := (.long oc0)) (by rw [e0]; exact Ar_4.1) (State.isArrayOf_alike hZ.alike Ar_4.2.1) Ar_4.2.2 hi_4 (H_4.at hi_4 rfl) (g := (mkF m 23 #[.val (.ref a), .val (.ref b), .val (.ref oc), .val (.ref od), .val (.long (0 : Int64)), .second, .val (.int (0 : Int32))] [(.int (0 : Int32)), (.ref oc), (.long b0), (.int (0 : Int32)), (.ref a)])) rfl rfl (hb hby d1_23) _ k) ?_
  show Win p.tables e below _ (s₁.setTop (mkF m 24 #[.val (.ref a), .val (.ref b), .val (.ref oc), .val (.ref od), .val (.long (0 : Int64)), .second, .val (.int (0 : Int32))] [(.long oc0), (.long b0), (.int (0 : Int32)), (.ref a)]))
  clear Ar_4 q_4 S_4 N_4 H_4 G_4 hi_4
  refine s_land (pc' := 25) X0.here hx (hb hby d1_24) rfl ?_
  refine s_aloadN (pc' := 26) X0.here hx (hb hby d1_25) rfl rfl rfl ?_
  refine s_iload (pc' := 28) X0.here hx (hb hby d1_26) rfl rfl ?_
  obtain ⟨cl_5, Ar_5, q_5, S_5, N_5, H_5, G_5⟩ := id V_od
  have hi_5 : ¬ ((0 : Int32) < 0 ∨ cl_5.slots.size ≤ ((0 : Int32)).toNatClampNeg) := inb_of S_5 ⟨by decide, by decide⟩
  refine Win.go (fun _ k => X0.laload hx (j := (0 : Int32)) (v := (.long od0)) (by rw [e0]; exact Ar_5.1) (State.isArrayOf_alike hZ.alike Ar_5.2.1) Ar_5.2.2 hi_5 (H_5.at hi_5 rfl) (g := (mkF m 28 #[.val (.ref a), .val (.ref b), .val (.ref oc), .val (.ref od), .val (.long (0 : Int64)), .second, .val (.int (0 : Int32))] [(.int (0 : Int32)), (.ref od), (.long (b0 &&& oc0)), (.int (0 : Int32)), (.ref a)])) rfl rfl (hb hby d1_28) _ k) ?_
  show Win p.tables e below _ (s₁.setTop (mkF m 29 #[.val (.ref a), .val (.ref b), .val (.ref oc), .val (.ref od), .val (.long (0 : Int64)), .second, .val (.int (0 : Int32))] [(.long od0), (.long (b0 &&& oc0)), (.int (0 : Int32)), (.ref a)]))
  clear Ar_5 q_5 S_5 N_5 H_5 G_5 hi_5
  refine s_land (pc' := 30) X0.here hx (hb hby d1_29) rfl ?_
  obtain ⟨cl_6, Ar_6, q_6, S_6, N_6, H_6, G_6⟩ := V_a
  obtain ⟨T_6, h_6, X_6, e_6, W_6, st_6⟩ := stJ X0 hx hZ e0 Ar_6 (j := (0 : Int32)) (inb_of S_6 ⟨by decide, by decide⟩) (g := (mkF m 30 #[.val (.ref a), .val (.ref b), .val (.ref oc), .val (.ref od), .val (.long (0 : Int64)), .second, .val (.int (0 : Int32))] [(.long ((b0 &&& oc0) &&& od0)), (.int (0 : Int32)), (.ref a)])) rfl rfl (hb hby d1_30)
  have V_6 := Arv.set Ar_6 q_6 S_6 N_6 H_6 G_6 rfl W_6 0 rfl (Nat.le_of_ble_eq_true rfl)
  replace V_b := V_b.other W_6 ne_b_a
  replace V_oc := V_oc.other W_6 ne_oc_a
  replace V_od := V_od.other W_6 ne_od_a
  replace lt_a := Nat.lt_of_lt_of_le lt_a (Keep.of_wr W_6).1
  replace lt_b := Nat.lt_of_lt_of_le lt_b (Keep.of_wr W_6).1
  replace lt_oc := Nat.lt_of_lt_of_le lt_oc (Keep.of_wr W_6).1
  replace lt_od := Nat.lt_of_lt_of_le lt_od (Keep.of_wr W_6).1
  replace Zs := Nat.le_trans Zs (Keep.of_wr W_6).1
  replace Kp := Kp.wr W_6 (Or.inl (by simp))
  replace V_a : Arv Z h_6 a ka .long (2 : Int32) [(.long ((b0 &&& oc0) &&& od0)), (.long a1)] (.long (0 : Int64)) := V_6
  replace Nf := Fr.snoc X_6 Nf g_a
  refine Win.go st_6 ?_
  clear st_6 W_6 V_6 Ar_6 q_6 S_6 N_6 H_6 G_6 X0 e0
  show Win p.tables e below _ (T_6.setTop (mkF m 31 #[.val (.ref a), .val (.ref b), .val (.ref oc), .val (.ref od), .val (.long (0 : Int64)), .second, .val (.int (0 : Int32))] []))
  refine s_lload (pc' := 33) X_6.here hx (hb hby d1_31) rfl rfl ?_
  refine s_aloadN (pc' := 34) X_6.here hx (hb hby d1_33) rfl rfl rfl ?_
  refine s_iload (pc' := 36) X_6.here hx (hb hby d1_34) rfl rfl ?_
  obtain ⟨cl_7, Ar_7, q_7, S_7, N_7, H_7, G_7⟩ := id V_a
  have hi_7 : ¬ ((0 : Int32) < 0 ∨ cl_7.slots.size ≤ ((0 : Int32)).toNatClampNeg) := inb_of S_7 ⟨by decide, by decide⟩
  refine Win.go (fun _ k => X_6.laload hx (j := (0 : Int32)) (v := (.long ((b0 &&& oc0) &&& od0))) (by rw [e_6]; exact Ar_7.1) (State.isArrayOf_alike hZ.alike Ar_7.2.1) Ar_7.2.2 hi_7 (H_7.at hi_7 rfl) (g := (mkF m 36 #[.val (.ref a), .val (.ref b), .val (.ref oc), .val (.ref od), .val (.long (0 : Int64)), .second, .val (.int (0 : Int32))] [(.int (0 : Int32)), (.ref a), (.long (0 : Int64))])) rfl rfl (hb hby d1_36) _ k) ?_
  show Win p.tables e below _ (T_6.setTop (mkF m 37 #[.val (.ref a), .val (.ref b), .val (.ref oc), .val (.ref od), .val (.long (0 : Int64)), .second, .val (.int (0 : Int32))] [(.long ((b0 &&& oc0) &&& od0)), (.long (0 : Int64))]))
  clear Ar_7 q_7 S_7 N_7 H_7 G_7 hi_7
  refine s_lor (pc' := 38) X_6.here hx (hb hby d1_37) rfl ?_
  refine s_lstore (pc' := 40) (l' := #[.val (.ref a), .val (.ref b), .val (.ref oc), .val (.ref od), .val (.long ((0 : Int64) ||| ((b0 &&& oc0) &&& od0))), .second, .val (.int (0 : Int32))]) X_6.here hx (hb hby d1_38) rfl rfl ?_
  refine Win.go (fun _ k => XS.iinc X_6.here hx rfl (hb hby d1_40) rfl (l' := #[.val (.ref a), .val (.ref b), .val (.ref oc), .val (.ref od), .val (.long ((0 : Int64) ||| ((b0 &&& oc0) &&& od0))), .second, .val (.int (1 : Int32))]) rfl k) ?_
  show Win p.tables e below _ (T_6.setTop (mkF m 43 #[.val (.ref a), .val (.ref b), .val (.ref oc), .val (.ref od), .val (.long ((0 : Int64) ||| ((b0 &&& oc0) &&& od0))), .second, .val (.int (1 : Int32))] []))
  refine s_goto (pc' := 6) X_6.here hx (hb hby d1_43) (by decide) (by decide) ?_
  refine s_iload (pc' := 8) X_6.here hx (hb hby d1_6) rfl rfl ?_
  refine s_aloadN (pc' := 9) X_6.here hx (hb hby d1_8) rfl rfl rfl ?_
  obtain ⟨cl_8, Ar_8, q_8, S_8, N_8, H_8, G_8⟩ := id V_b
  refine Win.go (fun _ k => X_6.arraylength hx (by rw [e_6]; exact Ar_8.1) (State.isArrayOf_alike hZ.alike Ar_8.2.1) (g := (mkF m 9 #[.val (.ref a), .val (.ref b), .val (.ref oc), .val (.ref od), .val (.long ((0 : Int64) ||| ((b0 &&& oc0) &&& od0))), .second, .val (.int (1 : Int32))] [(.ref b), (.int (1 : Int32))])) rfl rfl (hb hby d1_9) _ k) ?_
  rw [len_of S_8 N_8]
  clear Ar_8 q_8 S_8 N_8 H_8 G_8
  show Win p.tables e below _ (T_6.setTop (mkF m 10 #[.val (.ref a), .val (.ref b), .val (.ref oc), .val (.ref od), .val (.long ((0 : Int64) ||| ((b0 &&& oc0) &&& od0))), .second, .val (.int (1 : Int32))] [(.int (2 : Int32)), (.int (1 : Int32))]))
  refine s_icmpNo (pc' := 13) X_6.here hx (hb hby d1_10) rfl (tltI (x := (1 : Int32)) (y := (2 : Int32)) (by decide)).2.1 ?_
  refine s_aloadN (pc' := 14) X_6.here hx (hb hby d1_13) rfl rfl rfl ?_
  refine s_iload (pc' := 16) X_6.here hx (hb hby d1_14) rfl rfl ?_
  refine s_aloadN (pc' := 17) X_6.here hx (hb hby d1_16) rfl rfl rfl ?_
  refine s_iload (pc' := 19) X_6.here hx (hb hby d1_17) rfl rfl ?_
  obtain ⟨cl_9, Ar_9, q_9, S_9, N_9, H_9, G_9⟩ := id V_b
  have hi_9 : ¬ ((1 : Int32) < 0 ∨ cl_9.slots.size ≤ ((1 : Int32)).toNatClampNeg) := inb_of S_9 ⟨by decide, by decide⟩
  refine Win.go (fun _ k => X_6.laload hx (j := (1 : Int32)) (v := (.long b1)) (by rw [e_6]; exact Ar_9.1) (State.isArrayOf_alike hZ.alike Ar_9.2.1) Ar_9.2.2 hi_9 (H_9.at hi_9 rfl) (g := (mkF m 19 #[.val (.ref a), .val (.ref b), .val (.ref oc), .val (.ref od), .val (.long ((0 : Int64) ||| ((b0 &&& oc0) &&& od0))), .second, .val (.int (1 : Int32))] [(.int (1 : Int32)), (.ref b), (.int (1 : Int32)), (.ref a)])) rfl rfl (hb hby d1_19) _ k) ?_
  show Win p.tables e below _ (T_6.setTop (mkF m 20 #[.val (.ref a), .val (.ref b), .val (.ref oc), .val (.ref od), .val (.long ((0 : Int64) ||| ((b0 &&& oc0) &&& od0))), .second, .val (.int (1 : Int32))] [(.long b1), (.int (1 : Int32)), (.ref a)]))
  clear Ar_9 q_9 S_9 N_9 H_9 G_9 hi_9
  refine s_aloadN (pc' := 21) X_6.here hx (hb hby d1_20) rfl rfl rfl ?_
  refine s_iload (pc' := 23) X_6.here hx (hb hby d1_21) rfl rfl ?_
  obtain ⟨cl_10, Ar_10, q_10, S_10, N_10, H_10, G_10⟩ := id V_oc
  have hi_10 : ¬ ((1 : Int32) < 0 ∨ cl_10.slots.size ≤ ((1 : Int32)).toNatClampNeg) := inb_of S_10 ⟨by decide, by decide⟩
  refine Win.go (fun _ k => X_6.laload hx (j := (1 : Int32)) (v := (.long oc1)) (by rw [e_6]; exact Ar_10.1) (State.isArrayOf_alike hZ.alike Ar_10.2.1) Ar_10.2.2 hi_10 (H_10.at hi_10 rfl) (g := (mkF m 23 #[.val (.ref a), .val (.ref b), .val (.ref oc), .val (.ref od), .val (.long ((0 : Int64) ||| ((b0 &&& oc0) &&& od0))), .second, .val (.int (1 : Int32))] [(.int (1 : Int32)), (.ref oc), (.long b1), (.int (1 : Int32)), (.ref a)])) rfl rfl (hb hby d1_23) _ k) ?_
  show Win p.tables e below _ (T_6.setTop (mkF m 24 #[.val (.ref a), .val (.ref b), .val (.ref oc), .val (.ref od), .val (.long ((0 : Int64) ||| ((b0 &&& oc0) &&& od0))), .second, .val (.int (1 : Int32))] [(.long oc1), (.long b1), (.int (1 : Int32)), (.ref a)]))
  clear Ar_10 q_10 S_10 N_10 H_10 G_10 hi_10
  refine s_land (pc' := 25) X_6.here hx (hb hby d1_24) rfl ?_
  refine s_aloadN (pc' := 26) X_6.here hx (hb hby d1_25) rfl rfl rfl ?_
  refine s_iload (pc' := 28) X_6.here hx (hb hby d1_26) rfl rfl ?_
  obtain ⟨cl_11, Ar_11, q_11, S_11, N_11, H_11, G_11⟩ := id V_od
  have hi_11 : ¬ ((1 : Int32) < 0 ∨ cl_11.slots.size ≤ ((1 : Int32)).toNatClampNeg) := inb_of S_11 ⟨by decide, by decide⟩
  refine Win.go (fun _ k => X_6.laload hx (j := (1 : Int32)) (v := (.long od1)) (by rw [e_6]; exact Ar_11.1) (State.isArrayOf_alike hZ.alike Ar_11.2.1) Ar_11.2.2 hi_11 (H_11.at hi_11 rfl) (g := (mkF m 28 #[.val (.ref a), .val (.ref b), .val (.ref oc), .val (.ref od), .val (.long ((0 : Int64) ||| ((b0 &&& oc0) &&& od0))), .second, .val (.int (1 : Int32))] [(.int (1 : Int32)), (.ref od), (.long (b1 &&& oc1)), (.int (1 : Int32)), (.ref a)])) rfl rfl (hb hby d1_28) _ k) ?_
  show Win p.tables e below _ (T_6.setTop (mkF m 29 #[.val (.ref a), .val (.ref b), .val (.ref oc), .val (.ref od), .val (.long ((0 : Int64) ||| ((b0 &&& oc0) &&& od0))), .second, .val (.int (1 : Int32))] [(.long od1), (.long (b1 &&& oc1)), (.int (1 : Int32)), (.ref a)]))
  clear Ar_11 q_11 S_11 N_11 H_11 G_11 hi_11
  refine s_land (pc' := 30) X_6.here hx (hb hby d1_29) rfl ?_
  obtain ⟨cl_12, Ar_12, q_12, S_12, N_12, H_12, G_12⟩ := V_a
  obtain ⟨T_12, h_12, X_12, e_12, W_12, st_12⟩ := stJ X_6 hx hZ e_6 Ar_12 (j := (1 : Int32)) (inb_of S_12 ⟨by decide, by decide⟩) (g := (mkF m 30 #[.val (.ref a), .val (.ref b), .val (.ref oc), .val (.ref od), .val (.long ((0 : Int64) ||| ((b0 &&& oc0) &&& od0))), .second, .val (.int (1 : Int32))] [(.long ((b1 &&& oc1) &&& od1)), (.int (1 : Int32)), (.ref a)])) rfl rfl (hb hby d1_30)
  have V_12 := Arv.set Ar_12 q_12 S_12 N_12 H_12 G_12 rfl W_12 1 rfl (Nat.le_of_ble_eq_true rfl)
  replace V_b := V_b.other W_12 ne_b_a
  replace V_oc := V_oc.other W_12 ne_oc_a
  replace V_od := V_od.other W_12 ne_od_a
  replace lt_a := Nat.lt_of_lt_of_le lt_a (Keep.of_wr W_12).1
  replace lt_b := Nat.lt_of_lt_of_le lt_b (Keep.of_wr W_12).1
  replace lt_oc := Nat.lt_of_lt_of_le lt_oc (Keep.of_wr W_12).1
  replace lt_od := Nat.lt_of_lt_of_le lt_od (Keep.of_wr W_12).1
  replace Zs := Nat.le_trans Zs (Keep.of_wr W_12).1
  replace Kp := Kp.wr W_12 (Or.inl (by simp))
  replace V_a : Arv Z h_12 a ka .long (2 : Int32) [(.long ((b0 &&& oc0) &&& od0)), (.long ((b1 &&& oc1) &&& od1))] (.long (0 : Int64)) := V_12
  replace Nf := Fr.snoc X_12 Nf g_a
  refine Win.go st_12 ?_
  clear st_12 W_12 V_12 Ar_12 q_12 S_12 N_12 H_12 G_12 X_6 e_6
  show Win p.tables e below _ (T_12.setTop (mkF m 31 #[.val (.ref a), .val (.ref b), .val (.ref oc), .val (.ref od), .val (.long ((0 : Int64) ||| ((b0 &&& oc0) &&& od0))), .second, .val (.int (1 : Int32))] []))
  refine s_lload (pc' := 33) X_12.here hx (hb hby d1_31) rfl rfl ?_
  refine s_aloadN (pc' := 34) X_12.here hx (hb hby d1_33) rfl rfl rfl ?_
  refine s_iload (pc' := 36) X_12.here hx (hb hby d1_34) rfl rfl ?_
  obtain ⟨cl_13, Ar_13, q_13, S_13, N_13, H_13, G_13⟩ := id V_a
  have hi_13 : ¬ ((1 : Int32) < 0 ∨ cl_13.slots.size ≤ ((1 : Int32)).toNatClampNeg) := inb_of S_13 ⟨by decide, by decide⟩
  refine Win.go (fun _ k => X_12.laload hx (j := (1 : Int32)) (v := (.long ((b1 &&& oc1) &&& od1))) (by rw [e_12]; exact Ar_13.1) (State.isArrayOf_alike hZ.alike Ar_13.2.1) Ar_13.2.2 hi_13 (H_13.at hi_13 rfl) (g := (mkF m 36 #[.val (.ref a), .val (.ref b), .val (.ref oc), .val (.ref od), .val (.long ((0 : Int64) ||| ((b0 &&& oc0) &&& od0))), .second, .val (.int (1 : Int32))] [(.int (1 : Int32)), (.ref a), (.long ((0 : Int64) ||| ((b0 &&& oc0) &&& od0)))])) rfl rfl (hb hby d1_36) _ k) ?_
  show Win p.tables e below _ (T_12.setTop (mkF m 37 #[.val (.ref a), .val (.ref b), .val (.ref oc), .val (.ref od), .val (.long ((0 : Int64) ||| ((b0 &&& oc0) &&& od0))), .second, .val (.int (1 : Int32))] [(.long ((b1 &&& oc1) &&& od1)), (.long ((0 : Int64) ||| ((b0 &&& oc0) &&& od0)))]))
  clear Ar_13 q_13 S_13 N_13 H_13 G_13 hi_13
  refine s_lor (pc' := 38) X_12.here hx (hb hby d1_37) rfl ?_
  refine s_lstore (pc' := 40) (l' := #[.val (.ref a), .val (.ref b), .val (.ref oc), .val (.ref od), .val (.long (((0 : Int64) ||| ((b0 &&& oc0) &&& od0)) ||| ((b1 &&& oc1) &&& od1))), .second, .val (.int (1 : Int32))]) X_12.here hx (hb hby d1_38) rfl rfl ?_
  refine Win.go (fun _ k => XS.iinc X_12.here hx rfl (hb hby d1_40) rfl (l' := #[.val (.ref a), .val (.ref b), .val (.ref oc), .val (.ref od), .val (.long (((0 : Int64) ||| ((b0 &&& oc0) &&& od0)) ||| ((b1 &&& oc1) &&& od1))), .second, .val (.int (2 : Int32))]) rfl k) ?_
  show Win p.tables e below _ (T_12.setTop (mkF m 43 #[.val (.ref a), .val (.ref b), .val (.ref oc), .val (.ref od), .val (.long (((0 : Int64) ||| ((b0 &&& oc0) &&& od0)) ||| ((b1 &&& oc1) &&& od1))), .second, .val (.int (2 : Int32))] []))
  refine s_goto (pc' := 6) X_12.here hx (hb hby d1_43) (by decide) (by decide) ?_
  refine s_iload (pc' := 8) X_12.here hx (hb hby d1_6) rfl rfl ?_
  refine s_aloadN (pc' := 9) X_12.here hx (hb hby d1_8) rfl rfl rfl ?_
  obtain ⟨cl_14, Ar_14, q_14, S_14, N_14, H_14, G_14⟩ := id V_b
  refine Win.go (fun _ k => X_12.arraylength hx (by rw [e_12]; exact Ar_14.1) (State.isArrayOf_alike hZ.alike Ar_14.2.1) (g := (mkF m 9 #[.val (.ref a), .val (.ref b), .val (.ref oc), .val (.ref od), .val (.long (((0 : Int64) ||| ((b0 &&& oc0) &&& od0)) ||| ((b1 &&& oc1) &&& od1))), .second, .val (.int (2 : Int32))] [(.ref b), (.int (2 : Int32))])) rfl rfl (hb hby d1_9) _ k) ?_
  rw [len_of S_14 N_14]
  clear Ar_14 q_14 S_14 N_14 H_14 G_14
  show Win p.tables e below _ (T_12.setTop (mkF m 10 #[.val (.ref a), .val (.ref b), .val (.ref oc), .val (.ref od), .val (.long (((0 : Int64) ||| ((b0 &&& oc0) &&& od0)) ||| ((b1 &&& oc1) &&& od1))), .second, .val (.int (2 : Int32))] [(.int (2 : Int32)), (.int (2 : Int32))]))
  refine s_icmpYes (pc' := 46) X_12.here hx (hb hby d1_10) (fltI (x := (2 : Int32)) (y := (2 : Int32)) (by decide)).2.1 (by decide) (by decide) ?_
  refine s_lload (pc' := 48) X_12.here hx (hb hby d1_46) rfl rfl ?_
  refine s_lconst (pc' := 49) (z := (0 : Int64)) X_12.here hx (hb hby d1_48) rfl rfl ?_
  refine s_lcmp (pc' := 50) X_12.here hx (hb hby d1_49) rfl ?_
  by_cases hc50_0 : ((((0 : Int64) ||| ((b0 &&& oc0) &&& od0)) ||| ((b1 &&& oc1) &&& od1))).toInt = (0 : Int)
  · skip
    refine s_ifYes (pc' := 57) X_12.here hx (hb hby d1_50) (teqL (x := (((0 : Int64) ||| ((b0 &&& oc0) &&& od0)) ||| ((b1 &&& oc1) &&& od1))) (y := (0 : Int64)) hc50_0).1 (by decide) (by decide) ?_
    refine s_iconst (pc' := 58) (z := (0 : Int32)) X_12.here hx (hb hby d1_57) rfl rfl ?_
    refine winN X_12 hx hlk e_12 (t := .boolean) Bd.returns (by simp) (hb hby d1_58) (by decide) (by decide) (z' := (0 : Int32)) rfl ?_
    exact ⟨Nf, Kp, V_a, _, rfl, Or.inr ⟨rfl, by omega⟩⟩
  · skip
    refine s_ifNo (pc' := 53) X_12.here hx (hb hby d1_50) rfl (feqL (x := (((0 : Int64) ||| ((b0 &&& oc0) &&& od0)) ||| ((b1 &&& oc1) &&& od1))) (y := (0 : Int64)) hc50_0).1 ?_
    refine s_iconst (pc' := 54) (z := (1 : Int32)) X_12.here hx (hb hby d1_53) rfl rfl ?_
    refine s_goto (pc' := 58) X_12.here hx (hb hby d1_54) (by decide) (by decide) ?_
    refine winN X_12 hx hlk e_12 (t := .boolean) Bd.returns (by simp) (hb hby d1_58) (by decide) (by decide) (z' := (1 : Int32)) rfl ?_
    exact ⟨Nf, Kp, V_a, _, rfl, Or.inl ⟨rfl, by omega⟩⟩
theorem pn_0 : plainName "com/example/faithful_deputy/faithfuldeputy/BitsIntersectionPinLaw" = true := by first | (simp [plainName, overriddenIn]; done) | decide +kernel
theorem pd_0 : parseMethodDescriptor "([J[J[J[J)Z" = some ⟨[(.array .long), (.array .long), (.array .long), (.array .long)], some .boolean⟩ := by decide +kernel
theorem ef_0 (m : MethodId) (q0 : Int64) (q1 : Int64) (q2 : Int64) (q3 : Int64) (q4 : Int64) (q5 : Int64) : entryFrame m #[(.long q0), (.long q1), (.long q2), (.long q3), (.long q4), (.long q5)] maxLocals = mkF m 0 #[.val (.long q0), .second, .val (.long q1), .second, .val (.long q2), .second, .val (.long q3), .second, .val (.long q4), .second, .val (.long q5), .second, .unset, .unset, .unset, .unset, .unset, .unset, .unset, .unset, .unset, .unset, .unset, .unset, .unset, .unset, .unset, .unset, .unset] [] := by first | (simp [entryFrame, mkF, argsToLocals, Value.category, maxLocals]; done) | rfl
def Q0 (Z : State) (q0 : Int64) (q1 : Int64) (q2 : Int64) (q3 : Int64) (q4 : Int64) (q5 : Int64) (h0 : Heap) (n0 : Nat) (v : Option Value) (h : Heap) (L : List Loc) : Prop := Fr n0 L ∧ v = some (.int 1)
set_option maxRecDepth 65536 in
set_option maxHeartbeats 40000000 in
theorem rm0 (l : Launch) (Z : State) (a0 : Array Value) (hw : ∀ d ∈ tables_1, d.before a0 Z = true) (ws : List Jvm.Cond) (q0 : Int64) (q1 : Int64) (q2 : Int64) (q3 : Int64) (q4 : Int64) (q5 : Int64) (h0 : Heap) (n0 : Nat) (Zs : n0 ≤ h0.size) :
    MetFree l x (head1 (Jvm.Cond.code x code maxLocals ret :: ws) room_1) (fun as' U => as' = #[(.long q0), (.long q1), (.long q2), (.long q3), (.long q4), (.long q5)] ∧ Z.Warmed39 U.vm ∧ U.heap = h0) (fun _ _ _ _ _ => True) (fun _ U o U' => ∃ v L, o = .returned v ∧ Q0 Z q0 q1 q2 q3 q4 q5 h0 n0 v U'.heap L ∧ FrameEnd U o U' L room_1.cells room_1.slots) := by
  refine MetFree.of_bodySF (plainFor_of_name pn_0) hisR ?_
  intro p e s m args below meth c s₁ Bd hml0 hP hK
  obtain ⟨rfl, hZ, hh⟩ := hP
  have hx := Bd.exec
  have hby := Bd.bytes
  have hml : c.maxLocals = 29 := hml0
  have hown : s.vm.findClass "com/example/faithful_deputy/faithfuldeputy/BitsIntersectionPinLaw" = some m.cls := findClass_of_methodNamed Bd.named
  have hnm := (name_of_methodNamed Bd.named Bd.method).1
  have hlk : meth.locks = false := Bd.notSynchronized
  have X0 : Stand p l e room_1 s m #[(.long q0), (.long q1), (.long q2), (.long q3), (.long q4), (.long q5)] below meth c s₁ [] 0 0 := Stand.of_body Bd
  have e0 : s₁.heap = h0 := by rw [← hh, Bd.state]; rfl
  have Nf := Fr.nil n0
  refine (?_ : Win p.tables e below (PostQ s (Q0 Z q0 q1 q2 q3 q4 q5 h0 n0) room_1.cells room_1.slots) (s₁.setTop (entryFrame m #[(.long q0), (.long q1), (.long q2), (.long q3), (.long q4), (.long q5)] maxLocals)))
  rw [ef_0]
  show Win p.tables e below _ (s₁.setTop (mkF m 0 #[.val (.long q0), .second, .val (.long q1), .second, .val (.long q2), .second, .val (.long q3), .second, .val (.long q4), .second, .val (.long q5), .second, .unset, .unset, .unset, .unset, .unset, .unset, .unset, .unset, .unset, .unset, .unset, .unset, .unset, .unset, .unset, .unset, .unset] []))
  refine s_iconst (pc' := 1) (z := (2 : Int32)) X0.here hx (hb hby at_0) rfl rfl ?_
  obtain ⟨T_15, h_15, k_15, X_15, e_15, Ex_15, A_15, EA_15, st_15⟩ := newPE X0 hx hZ (hw _ (List.mem_of_getElem? (i := 0) rfl)) e0 (g := (mkF m 1 #[.val (.long q0), .second, .val (.long q1), .second, .val (.long q2), .second, .val (.long q3), .second, .val (.long q4), .second, .val (.long q5), .second, .unset, .unset, .unset, .unset, .unset, .unset, .unset, .unset, .unset, .unset, .unset, .unset, .unset, .unset, .unset, .unset, .unset] [(.int (2 : Int32))])) rfl (hb hby at_1) rfl (by decide) (cap := 2) (by decide) (by decide) (by decide) (by decide) (ad := "[J") (by decide)
  obtain ⟨b_15, g_15⟩ : ∃ z, z = h0.size := ⟨_, rfl⟩
  have g_b_15 : n0 ≤ b_15 := Nat.le_trans Zs (Nat.le_of_eq g_15.symm)
  rw [← g_15] at A_15 EA_15 st_15
  replace Zs := Nat.le_trans Zs Ex_15.1
  have V_b_15 : Arv Z h_15 b_15 k_15 .long (2 : Int32) [(.long (0 : Int64)), (.long (0 : Int64))] (.long (0 : Int64)) := (Arv.new A_15 (by decide)).pad (pad_rep [] (.long (0 : Int64)) 2)
  have lt_b_15 := V_b_15.lt
  have E_b_15 := EA_15
  refine Win.go st_15 ?_
  clear st_15 Ex_15 A_15 EA_15 g_15 X0 e0
  show Win p.tables e below _ (T_15.setTop (mkF m 3 #[.val (.long q0), .second, .val (.long q1), .second, .val (.long q2), .second, .val (.long q3), .second, .val (.long q4), .second, .val (.long q5), .second, .unset, .unset, .unset, .unset, .unset, .unset, .unset, .unset, .unset, .unset, .unset, .unset, .unset, .unset, .unset, .unset, .unset] [(.ref b_15)]))
  refine s_dup (pc' := 4) X_15.here hx (hb hby at_3) rfl rfl ?_
  refine s_iconst (pc' := 5) (z := (0 : Int32)) X_15.here hx (hb hby at_4) rfl rfl ?_
  refine s_lloadN (pc' := 6) X_15.here hx (hb hby at_5) rfl rfl ?_
  obtain ⟨cl_16, Ar_16, q_16, S_16, N_16, H_16, G_16⟩ := V_b_15
  obtain ⟨T_16, h_16, X_16, e_16, W_16, st_16⟩ := stJ X_15 hx hZ e_15 Ar_16 (j := (0 : Int32)) (inb_of S_16 ⟨by decide, by decide⟩) (g := (mkF m 6 #[.val (.long q0), .second, .val (.long q1), .second, .val (.long q2), .second, .val (.long q3), .second, .val (.long q4), .second, .val (.long q5), .second, .unset, .unset, .unset, .unset, .unset, .unset, .unset, .unset, .unset, .unset, .unset, .unset, .unset, .unset, .unset, .unset, .unset] [(.long q0), (.int (0 : Int32)), (.ref b_15), (.ref b_15)])) rfl rfl (hb hby at_6)
  have V_16 := Arv.set Ar_16 q_16 S_16 N_16 H_16 G_16 rfl W_16 0 rfl (Nat.le_of_ble_eq_true rfl)
  replace E_b_15 := E_b_15.wr W_16
  replace lt_b_15 := Nat.lt_of_lt_of_le lt_b_15 (Keep.of_wr W_16).1
  replace Zs := Nat.le_trans Zs (Keep.of_wr W_16).1
  replace V_b_15 : Arv Z h_16 b_15 k_15 .long (2 : Int32) [(.long q0), (.long (0 : Int64))] (.long (0 : Int64)) := V_16
  replace Nf := Fr.snoc X_16 Nf g_b_15
  refine Win.go st_16 ?_
  clear st_16 W_16 V_16 Ar_16 q_16 S_16 N_16 H_16 G_16 X_15 e_15
  show Win p.tables e below _ (T_16.setTop (mkF m 7 #[.val (.long q0), .second, .val (.long q1), .second, .val (.long q2), .second, .val (.long q3), .second, .val (.long q4), .second, .val (.long q5), .second, .unset, .unset, .unset, .unset, .unset, .unset, .unset, .unset, .unset, .unset, .unset, .unset, .unset, .unset, .unset, .unset, .unset] [(.ref b_15)]))
  refine s_dup (pc' := 8) X_16.here hx (hb hby at_7) rfl rfl ?_
  refine s_iconst (pc' := 9) (z := (1 : Int32)) X_16.here hx (hb hby at_8) rfl rfl ?_
  refine s_lloadN (pc' := 10) X_16.here hx (hb hby at_9) rfl rfl ?_
  obtain ⟨cl_17, Ar_17, q_17, S_17, N_17, H_17, G_17⟩ := V_b_15
  obtain ⟨T_17, h_17, X_17, e_17, W_17, st_17⟩ := stJ X_16 hx hZ e_16 Ar_17 (j := (1 : Int32)) (inb_of S_17 ⟨by decide, by decide⟩) (g := (mkF m 10 #[.val (.long q0), .second, .val (.long q1), .second, .val (.long q2), .second, .val (.long q3), .second, .val (.long q4), .second, .val (.long q5), .second, .unset, .unset, .unset, .unset, .unset, .unset, .unset, .unset, .unset, .unset, .unset, .unset, .unset, .unset, .unset, .unset, .unset] [(.long q1), (.int (1 : Int32)), (.ref b_15), (.ref b_15)])) rfl rfl (hb hby at_10)
  have V_17 := Arv.set Ar_17 q_17 S_17 N_17 H_17 G_17 rfl W_17 1 rfl (Nat.le_of_ble_eq_true rfl)
  replace E_b_15 := E_b_15.wr W_17
  replace lt_b_15 := Nat.lt_of_lt_of_le lt_b_15 (Keep.of_wr W_17).1
  replace Zs := Nat.le_trans Zs (Keep.of_wr W_17).1
  replace V_b_15 : Arv Z h_17 b_15 k_15 .long (2 : Int32) [(.long q0), (.long q1)] (.long (0 : Int64)) := V_17
  replace Nf := Fr.snoc X_17 Nf g_b_15
  refine Win.go st_17 ?_
  clear st_17 W_17 V_17 Ar_17 q_17 S_17 N_17 H_17 G_17 X_16 e_16
  show Win p.tables e below _ (T_17.setTop (mkF m 11 #[.val (.long q0), .second, .val (.long q1), .second, .val (.long q2), .second, .val (.long q3), .second, .val (.long q4), .second, .val (.long q5), .second, .unset, .unset, .unset, .unset, .unset, .unset, .unset, .unset, .unset, .unset, .unset, .unset, .unset, .unset, .unset, .unset, .unset] [(.ref b_15)]))
  refine s_astore (pc' := 13) (l' := #[.val (.long q0), .second, .val (.long q1), .second, .val (.long q2), .second, .val (.long q3), .second, .val (.long q4), .second, .val (.long q5), .second, .val (.ref b_15), .unset, .unset, .unset, .unset, .unset, .unset, .unset, .unset, .unset, .unset, .unset, .unset, .unset, .unset, .unset, .unset]) X_17.here hx (hb hby at_11) rfl rfl rfl ?_
  refine s_iconst (pc' := 14) (z := (2 : Int32)) X_17.here hx (hb hby at_13) rfl rfl ?_
  obtain ⟨T_18, h_18, k_18, X_18, e_18, Ex_18, A_18, EA_18, st_18⟩ := newPE X_17 hx hZ (hw _ (List.mem_of_getElem? (i := 0) rfl)) e_17 (g := (mkF m 14 #[.val (.long q0), .second, .val (.long q1), .second, .val (.long q2), .second, .val (.long q3), .second, .val (.long q4), .second, .val (.long q5), .second, .val (.ref b_15), .unset, .unset, .unset, .unset, .unset, .unset, .unset, .unset, .unset, .unset, .unset, .unset, .unset, .unset, .unset, .unset] [(.int (2 : Int32))])) rfl (hb hby at_14) rfl (by decide) (cap := 2) (by decide) (by decide) (by decide) (by decide) (ad := "[J") (by decide)
  obtain ⟨b_18, g_18⟩ : ∃ z, z = h_17.size := ⟨_, rfl⟩
  have ne_b_15_b_18 : b_15 ≠ b_18 := Nat.ne_of_lt (Nat.lt_of_lt_of_le lt_b_15 (Nat.le_of_eq g_18.symm))
  have g_b_18 : n0 ≤ b_18 := Nat.le_trans Zs (Nat.le_of_eq g_18.symm)
  rw [← g_18] at A_18 EA_18 st_18
  replace V_b_15 := V_b_15.ext Ex_18
  replace E_b_15 := E_b_15.ext Ex_18
  replace lt_b_15 := Nat.lt_of_lt_of_le lt_b_15 Ex_18.1
  replace Zs := Nat.le_trans Zs Ex_18.1
  have V_b_18 : Arv Z h_18 b_18 k_18 .long (2 : Int32) [(.long (0 : Int64)), (.long (0 : Int64))] (.long (0 : Int64)) := (Arv.new A_18 (by decide)).pad (pad_rep [] (.long (0 : Int64)) 2)
  have lt_b_18 := V_b_18.lt
  have E_b_18 := EA_18
  refine Win.go st_18 ?_
  clear st_18 Ex_18 A_18 EA_18 g_18 X_17 e_17
  show Win p.tables e below _ (T_18.setTop (mkF m 16 #[.val (.long q0), .second, .val (.long q1), .second, .val (.long q2), .second, .val (.long q3), .second, .val (.long q4), .second, .val (.long q5), .second, .val (.ref b_15), .unset, .unset, .unset, .unset, .unset, .unset, .unset, .unset, .unset, .unset, .unset, .unset, .unset, .unset, .unset, .unset] [(.ref b_18)]))
  refine s_dup (pc' := 17) X_18.here hx (hb hby at_16) rfl rfl ?_
  refine s_iconst (pc' := 18) (z := (0 : Int32)) X_18.here hx (hb hby at_17) rfl rfl ?_
  refine s_lload (pc' := 20) X_18.here hx (hb hby at_18) rfl rfl ?_
  obtain ⟨cl_19, Ar_19, q_19, S_19, N_19, H_19, G_19⟩ := V_b_18
  obtain ⟨T_19, h_19, X_19, e_19, W_19, st_19⟩ := stJ X_18 hx hZ e_18 Ar_19 (j := (0 : Int32)) (inb_of S_19 ⟨by decide, by decide⟩) (g := (mkF m 20 #[.val (.long q0), .second, .val (.long q1), .second, .val (.long q2), .second, .val (.long q3), .second, .val (.long q4), .second, .val (.long q5), .second, .val (.ref b_15), .unset, .unset, .unset, .unset, .unset, .unset, .unset, .unset, .unset, .unset, .unset, .unset, .unset, .unset, .unset, .unset] [(.long q2), (.int (0 : Int32)), (.ref b_18), (.ref b_18)])) rfl rfl (hb hby at_20)
  have V_19 := Arv.set Ar_19 q_19 S_19 N_19 H_19 G_19 rfl W_19 0 rfl (Nat.le_of_ble_eq_true rfl)
  replace V_b_15 := V_b_15.other W_19 ne_b_15_b_18
  replace E_b_15 := E_b_15.wr W_19
  replace E_b_18 := E_b_18.wr W_19
  replace lt_b_15 := Nat.lt_of_lt_of_le lt_b_15 (Keep.of_wr W_19).1
  replace lt_b_18 := Nat.lt_of_lt_of_le lt_b_18 (Keep.of_wr W_19).1
  replace Zs := Nat.le_trans Zs (Keep.of_wr W_19).1
  replace V_b_18 : Arv Z h_19 b_18 k_18 .long (2 : Int32) [(.long q2), (.long (0 : Int64))] (.long (0 : Int64)) := V_19
  replace Nf := Fr.snoc X_19 Nf g_b_18
  refine Win.go st_19 ?_
  clear st_19 W_19 V_19 Ar_19 q_19 S_19 N_19 H_19 G_19 X_18 e_18
  show Win p.tables e below _ (T_19.setTop (mkF m 21 #[.val (.long q0), .second, .val (.long q1), .second, .val (.long q2), .second, .val (.long q3), .second, .val (.long q4), .second, .val (.long q5), .second, .val (.ref b_15), .unset, .unset, .unset, .unset, .unset, .unset, .unset, .unset, .unset, .unset, .unset, .unset, .unset, .unset, .unset, .unset] [(.ref b_18)]))
  refine s_dup (pc' := 22) X_19.here hx (hb hby at_21) rfl rfl ?_
  refine s_iconst (pc' := 23) (z := (1 : Int32)) X_19.here hx (hb hby at_22) rfl rfl ?_
  refine s_lload (pc' := 25) X_19.here hx (hb hby at_23) rfl rfl ?_
  obtain ⟨cl_20, Ar_20, q_20, S_20, N_20, H_20, G_20⟩ := V_b_18
  obtain ⟨T_20, h_20, X_20, e_20, W_20, st_20⟩ := stJ X_19 hx hZ e_19 Ar_20 (j := (1 : Int32)) (inb_of S_20 ⟨by decide, by decide⟩) (g := (mkF m 25 #[.val (.long q0), .second, .val (.long q1), .second, .val (.long q2), .second, .val (.long q3), .second, .val (.long q4), .second, .val (.long q5), .second, .val (.ref b_15), .unset, .unset, .unset, .unset, .unset, .unset, .unset, .unset, .unset, .unset, .unset, .unset, .unset, .unset, .unset, .unset] [(.long q3), (.int (1 : Int32)), (.ref b_18), (.ref b_18)])) rfl rfl (hb hby at_25)
  have V_20 := Arv.set Ar_20 q_20 S_20 N_20 H_20 G_20 rfl W_20 1 rfl (Nat.le_of_ble_eq_true rfl)
  replace V_b_15 := V_b_15.other W_20 ne_b_15_b_18
  replace E_b_15 := E_b_15.wr W_20
  replace E_b_18 := E_b_18.wr W_20
  replace lt_b_15 := Nat.lt_of_lt_of_le lt_b_15 (Keep.of_wr W_20).1
  replace lt_b_18 := Nat.lt_of_lt_of_le lt_b_18 (Keep.of_wr W_20).1
  replace Zs := Nat.le_trans Zs (Keep.of_wr W_20).1
  replace V_b_18 : Arv Z h_20 b_18 k_18 .long (2 : Int32) [(.long q2), (.long q3)] (.long (0 : Int64)) := V_20
  replace Nf := Fr.snoc X_20 Nf g_b_18
  refine Win.go st_20 ?_
  clear st_20 W_20 V_20 Ar_20 q_20 S_20 N_20 H_20 G_20 X_19 e_19
  show Win p.tables e below _ (T_20.setTop (mkF m 26 #[.val (.long q0), .second, .val (.long q1), .second, .val (.long q2), .second, .val (.long q3), .second, .val (.long q4), .second, .val (.long q5), .second, .val (.ref b_15), .unset, .unset, .unset, .unset, .unset, .unset, .unset, .unset, .unset, .unset, .unset, .unset, .unset, .unset, .unset, .unset] [(.ref b_18)]))
  refine s_astore (pc' := 28) (l' := #[.val (.long q0), .second, .val (.long q1), .second, .val (.long q2), .second, .val (.long q3), .second, .val (.long q4), .second, .val (.long q5), .second, .val (.ref b_15), .val (.ref b_18), .unset, .unset, .unset, .unset, .unset, .unset, .unset, .unset, .unset, .unset, .unset, .unset, .unset, .unset, .unset]) X_20.here hx (hb hby at_26) rfl rfl rfl ?_
  refine s_iconst (pc' := 29) (z := (2 : Int32)) X_20.here hx (hb hby at_28) rfl rfl ?_
  obtain ⟨T_21, h_21, k_21, X_21, e_21, Ex_21, A_21, EA_21, st_21⟩ := newPE X_20 hx hZ (hw _ (List.mem_of_getElem? (i := 0) rfl)) e_20 (g := (mkF m 29 #[.val (.long q0), .second, .val (.long q1), .second, .val (.long q2), .second, .val (.long q3), .second, .val (.long q4), .second, .val (.long q5), .second, .val (.ref b_15), .val (.ref b_18), .unset, .unset, .unset, .unset, .unset, .unset, .unset, .unset, .unset, .unset, .unset, .unset, .unset, .unset, .unset] [(.int (2 : Int32))])) rfl (hb hby at_29) rfl (by decide) (cap := 2) (by decide) (by decide) (by decide) (by decide) (ad := "[J") (by decide)
  obtain ⟨b_21, g_21⟩ : ∃ z, z = h_20.size := ⟨_, rfl⟩
  have ne_b_15_b_21 : b_15 ≠ b_21 := Nat.ne_of_lt (Nat.lt_of_lt_of_le lt_b_15 (Nat.le_of_eq g_21.symm))
  have ne_b_18_b_21 : b_18 ≠ b_21 := Nat.ne_of_lt (Nat.lt_of_lt_of_le lt_b_18 (Nat.le_of_eq g_21.symm))
  have g_b_21 : n0 ≤ b_21 := Nat.le_trans Zs (Nat.le_of_eq g_21.symm)
  rw [← g_21] at A_21 EA_21 st_21
  replace V_b_15 := V_b_15.ext Ex_21
  replace E_b_15 := E_b_15.ext Ex_21
  replace V_b_18 := V_b_18.ext Ex_21
  replace E_b_18 := E_b_18.ext Ex_21
  replace lt_b_15 := Nat.lt_of_lt_of_le lt_b_15 Ex_21.1
  replace lt_b_18 := Nat.lt_of_lt_of_le lt_b_18 Ex_21.1
  replace Zs := Nat.le_trans Zs Ex_21.1
  have V_b_21 : Arv Z h_21 b_21 k_21 .long (2 : Int32) [(.long (0 : Int64)), (.long (0 : Int64))] (.long (0 : Int64)) := (Arv.new A_21 (by decide)).pad (pad_rep [] (.long (0 : Int64)) 2)
  have lt_b_21 := V_b_21.lt
  have E_b_21 := EA_21
  refine Win.go st_21 ?_
  clear st_21 Ex_21 A_21 EA_21 g_21 X_20 e_20
  show Win p.tables e below _ (T_21.setTop (mkF m 31 #[.val (.long q0), .second, .val (.long q1), .second, .val (.long q2), .second, .val (.long q3), .second, .val (.long q4), .second, .val (.long q5), .second, .val (.ref b_15), .val (.ref b_18), .unset, .unset, .unset, .unset, .unset, .unset, .unset, .unset, .unset, .unset, .unset, .unset, .unset, .unset, .unset] [(.ref b_21)]))
  refine s_dup (pc' := 32) X_21.here hx (hb hby at_31) rfl rfl ?_
  refine s_iconst (pc' := 33) (z := (0 : Int32)) X_21.here hx (hb hby at_32) rfl rfl ?_
  refine s_lload (pc' := 35) X_21.here hx (hb hby at_33) rfl rfl ?_
  obtain ⟨cl_22, Ar_22, q_22, S_22, N_22, H_22, G_22⟩ := V_b_21
  obtain ⟨T_22, h_22, X_22, e_22, W_22, st_22⟩ := stJ X_21 hx hZ e_21 Ar_22 (j := (0 : Int32)) (inb_of S_22 ⟨by decide, by decide⟩) (g := (mkF m 35 #[.val (.long q0), .second, .val (.long q1), .second, .val (.long q2), .second, .val (.long q3), .second, .val (.long q4), .second, .val (.long q5), .second, .val (.ref b_15), .val (.ref b_18), .unset, .unset, .unset, .unset, .unset, .unset, .unset, .unset, .unset, .unset, .unset, .unset, .unset, .unset, .unset] [(.long q4), (.int (0 : Int32)), (.ref b_21), (.ref b_21)])) rfl rfl (hb hby at_35)
  have V_22 := Arv.set Ar_22 q_22 S_22 N_22 H_22 G_22 rfl W_22 0 rfl (Nat.le_of_ble_eq_true rfl)
  replace V_b_15 := V_b_15.other W_22 ne_b_15_b_21
  replace E_b_15 := E_b_15.wr W_22
  replace V_b_18 := V_b_18.other W_22 ne_b_18_b_21
  replace E_b_18 := E_b_18.wr W_22
  replace E_b_21 := E_b_21.wr W_22
  replace lt_b_15 := Nat.lt_of_lt_of_le lt_b_15 (Keep.of_wr W_22).1
  replace lt_b_18 := Nat.lt_of_lt_of_le lt_b_18 (Keep.of_wr W_22).1
  replace lt_b_21 := Nat.lt_of_lt_of_le lt_b_21 (Keep.of_wr W_22).1
  replace Zs := Nat.le_trans Zs (Keep.of_wr W_22).1
  replace V_b_21 : Arv Z h_22 b_21 k_21 .long (2 : Int32) [(.long q4), (.long (0 : Int64))] (.long (0 : Int64)) := V_22
  replace Nf := Fr.snoc X_22 Nf g_b_21
  refine Win.go st_22 ?_
  clear st_22 W_22 V_22 Ar_22 q_22 S_22 N_22 H_22 G_22 X_21 e_21
  show Win p.tables e below _ (T_22.setTop (mkF m 36 #[.val (.long q0), .second, .val (.long q1), .second, .val (.long q2), .second, .val (.long q3), .second, .val (.long q4), .second, .val (.long q5), .second, .val (.ref b_15), .val (.ref b_18), .unset, .unset, .unset, .unset, .unset, .unset, .unset, .unset, .unset, .unset, .unset, .unset, .unset, .unset, .unset] [(.ref b_21)]))
  refine s_dup (pc' := 37) X_22.here hx (hb hby at_36) rfl rfl ?_
  refine s_iconst (pc' := 38) (z := (1 : Int32)) X_22.here hx (hb hby at_37) rfl rfl ?_
  refine s_lload (pc' := 40) X_22.here hx (hb hby at_38) rfl rfl ?_
  obtain ⟨cl_23, Ar_23, q_23, S_23, N_23, H_23, G_23⟩ := V_b_21
  obtain ⟨T_23, h_23, X_23, e_23, W_23, st_23⟩ := stJ X_22 hx hZ e_22 Ar_23 (j := (1 : Int32)) (inb_of S_23 ⟨by decide, by decide⟩) (g := (mkF m 40 #[.val (.long q0), .second, .val (.long q1), .second, .val (.long q2), .second, .val (.long q3), .second, .val (.long q4), .second, .val (.long q5), .second, .val (.ref b_15), .val (.ref b_18), .unset, .unset, .unset, .unset, .unset, .unset, .unset, .unset, .unset, .unset, .unset, .unset, .unset, .unset, .unset] [(.long q5), (.int (1 : Int32)), (.ref b_21), (.ref b_21)])) rfl rfl (hb hby at_40)
  have V_23 := Arv.set Ar_23 q_23 S_23 N_23 H_23 G_23 rfl W_23 1 rfl (Nat.le_of_ble_eq_true rfl)
  replace V_b_15 := V_b_15.other W_23 ne_b_15_b_21
  replace E_b_15 := E_b_15.wr W_23
  replace V_b_18 := V_b_18.other W_23 ne_b_18_b_21
  replace E_b_18 := E_b_18.wr W_23
  replace E_b_21 := E_b_21.wr W_23
  replace lt_b_15 := Nat.lt_of_lt_of_le lt_b_15 (Keep.of_wr W_23).1
  replace lt_b_18 := Nat.lt_of_lt_of_le lt_b_18 (Keep.of_wr W_23).1
  replace lt_b_21 := Nat.lt_of_lt_of_le lt_b_21 (Keep.of_wr W_23).1
  replace Zs := Nat.le_trans Zs (Keep.of_wr W_23).1
  replace V_b_21 : Arv Z h_23 b_21 k_21 .long (2 : Int32) [(.long q4), (.long q5)] (.long (0 : Int64)) := V_23
  replace Nf := Fr.snoc X_23 Nf g_b_21
  refine Win.go st_23 ?_
  clear st_23 W_23 V_23 Ar_23 q_23 S_23 N_23 H_23 G_23 X_22 e_22
  show Win p.tables e below _ (T_23.setTop (mkF m 41 #[.val (.long q0), .second, .val (.long q1), .second, .val (.long q2), .second, .val (.long q3), .second, .val (.long q4), .second, .val (.long q5), .second, .val (.ref b_15), .val (.ref b_18), .unset, .unset, .unset, .unset, .unset, .unset, .unset, .unset, .unset, .unset, .unset, .unset, .unset, .unset, .unset] [(.ref b_21)]))
  refine s_astore (pc' := 43) (l' := #[.val (.long q0), .second, .val (.long q1), .second, .val (.long q2), .second, .val (.long q3), .second, .val (.long q4), .second, .val (.long q5), .second, .val (.ref b_15), .val (.ref b_18), .val (.ref b_21), .unset, .unset, .unset, .unset, .unset, .unset, .unset, .unset, .unset, .unset, .unset, .unset, .unset, .unset]) X_23.here hx (hb hby at_41) rfl rfl rfl ?_
  refine s_iconst (pc' := 44) (z := (2 : Int32)) X_23.here hx (hb hby at_43) rfl rfl ?_
  obtain ⟨T_24, h_24, k_24, X_24, e_24, Ex_24, A_24, EA_24, st_24⟩ := newPE X_23 hx hZ (hw _ (List.mem_of_getElem? (i := 0) rfl)) e_23 (g := (mkF m 44 #[.val (.long q0), .second, .val (.long q1), .second, .val (.long q2), .second, .val (.long q3), .second, .val (.long q4), .second, .val (.long q5), .second, .val (.ref b_15), .val (.ref b_18), .val (.ref b_21), .unset, .unset, .unset, .unset, .unset, .unset, .unset, .unset, .unset, .unset, .unset, .unset, .unset, .unset] [(.int (2 : Int32))])) rfl (hb hby at_44) rfl (by decide) (cap := 2) (by decide) (by decide) (by decide) (by decide) (ad := "[J") (by decide)
  obtain ⟨b_24, g_24⟩ : ∃ z, z = h_23.size := ⟨_, rfl⟩
  have ne_b_15_b_24 : b_15 ≠ b_24 := Nat.ne_of_lt (Nat.lt_of_lt_of_le lt_b_15 (Nat.le_of_eq g_24.symm))
  have ne_b_18_b_24 : b_18 ≠ b_24 := Nat.ne_of_lt (Nat.lt_of_lt_of_le lt_b_18 (Nat.le_of_eq g_24.symm))
  have ne_b_21_b_24 : b_21 ≠ b_24 := Nat.ne_of_lt (Nat.lt_of_lt_of_le lt_b_21 (Nat.le_of_eq g_24.symm))
  have g_b_24 : n0 ≤ b_24 := Nat.le_trans Zs (Nat.le_of_eq g_24.symm)
  rw [← g_24] at A_24 EA_24 st_24
  replace V_b_15 := V_b_15.ext Ex_24
  replace E_b_15 := E_b_15.ext Ex_24
  replace V_b_18 := V_b_18.ext Ex_24
  replace E_b_18 := E_b_18.ext Ex_24
  replace V_b_21 := V_b_21.ext Ex_24
  replace E_b_21 := E_b_21.ext Ex_24
  replace lt_b_15 := Nat.lt_of_lt_of_le lt_b_15 Ex_24.1
  replace lt_b_18 := Nat.lt_of_lt_of_le lt_b_18 Ex_24.1
  replace lt_b_21 := Nat.lt_of_lt_of_le lt_b_21 Ex_24.1
  replace Zs := Nat.le_trans Zs Ex_24.1
  have V_b_24 : Arv Z h_24 b_24 k_24 .long (2 : Int32) [(.long (0 : Int64)), (.long (0 : Int64))] (.long (0 : Int64)) := (Arv.new A_24 (by decide)).pad (pad_rep [] (.long (0 : Int64)) 2)
  have lt_b_24 := V_b_24.lt
  have E_b_24 := EA_24
  refine Win.go st_24 ?_
  clear st_24 Ex_24 A_24 EA_24 g_24 X_23 e_23
  show Win p.tables e below _ (T_24.setTop (mkF m 46 #[.val (.long q0), .second, .val (.long q1), .second, .val (.long q2), .second, .val (.long q3), .second, .val (.long q4), .second, .val (.long q5), .second, .val (.ref b_15), .val (.ref b_18), .val (.ref b_21), .unset, .unset, .unset, .unset, .unset, .unset, .unset, .unset, .unset, .unset, .unset, .unset, .unset, .unset] [(.ref b_24)]))
  refine s_dup (pc' := 47) X_24.here hx (hb hby at_46) rfl rfl ?_
  refine s_iconst (pc' := 48) (z := (0 : Int32)) X_24.here hx (hb hby at_47) rfl rfl ?_
  refine s_lloadN (pc' := 49) X_24.here hx (hb hby at_48) rfl rfl ?_
  refine Win.go (fun _ k => X_24.ldc2Long hx hown (mvT hZ (hw _ (List.mem_of_getElem? (i := 1) rfl))) (g := (mkF m 49 #[.val (.long q0), .second, .val (.long q1), .second, .val (.long q2), .second, .val (.long q3), .second, .val (.long q4), .second, .val (.long q5), .second, .val (.ref b_15), .val (.ref b_18), .val (.ref b_21), .unset, .unset, .unset, .unset, .unset, .unset, .unset, .unset, .unset, .unset, .unset, .unset, .unset, .unset] [(.long q0), (.int (0 : Int32)), (.ref b_24), (.ref b_24)])) rfl (hb hby at_49) _ k) ?_
  show Win p.tables e below _ (T_24.setTop (mkF m 52 #[.val (.long q0), .second, .val (.long q1), .second, .val (.long q2), .second, .val (.long q3), .second, .val (.long q4), .second, .val (.long q5), .second, .val (.ref b_15), .val (.ref b_18), .val (.ref b_21), .unset, .unset, .unset, .unset, .unset, .unset, .unset, .unset, .unset, .unset, .unset, .unset, .unset, .unset] [(.long (-1 : Int64)), (.long q0), (.int (0 : Int32)), (.ref b_24), (.ref b_24)]))
  refine s_lxor (pc' := 53) X_24.here hx (hb hby at_52) rfl ?_
  obtain ⟨cl_25, Ar_25, q_25, S_25, N_25, H_25, G_25⟩ := V_b_24
  obtain ⟨T_25, h_25, X_25, e_25, W_25, st_25⟩ := stJ X_24 hx hZ e_24 Ar_25 (j := (0 : Int32)) (inb_of S_25 ⟨by decide, by decide⟩) (g := (mkF m 53 #[.val (.long q0), .second, .val (.long q1), .second, .val (.long q2), .second, .val (.long q3), .second, .val (.long q4), .second, .val (.long q5), .second, .val (.ref b_15), .val (.ref b_18), .val (.ref b_21), .unset, .unset, .unset, .unset, .unset, .unset, .unset, .unset, .unset, .unset, .unset, .unset, .unset, .unset] [(.long (q0 ^^^ (-1 : Int64))), (.int (0 : Int32)), (.ref b_24), (.ref b_24)])) rfl rfl (hb hby at_53)
  have V_25 := Arv.set Ar_25 q_25 S_25 N_25 H_25 G_25 rfl W_25 0 rfl (Nat.le_of_ble_eq_true rfl)
  replace V_b_15 := V_b_15.other W_25 ne_b_15_b_24
  replace E_b_15 := E_b_15.wr W_25
  replace V_b_18 := V_b_18.other W_25 ne_b_18_b_24
  replace E_b_18 := E_b_18.wr W_25
  replace V_b_21 := V_b_21.other W_25 ne_b_21_b_24
  replace E_b_21 := E_b_21.wr W_25
  replace E_b_24 := E_b_24.wr W_25
  replace lt_b_15 := Nat.lt_of_lt_of_le lt_b_15 (Keep.of_wr W_25).1
  replace lt_b_18 := Nat.lt_of_lt_of_le lt_b_18 (Keep.of_wr W_25).1
  replace lt_b_21 := Nat.lt_of_lt_of_le lt_b_21 (Keep.of_wr W_25).1
  replace lt_b_24 := Nat.lt_of_lt_of_le lt_b_24 (Keep.of_wr W_25).1
  replace Zs := Nat.le_trans Zs (Keep.of_wr W_25).1
  replace V_b_24 : Arv Z h_25 b_24 k_24 .long (2 : Int32) [(.long (q0 ^^^ (-1 : Int64))), (.long (0 : Int64))] (.long (0 : Int64)) := V_25
  replace Nf := Fr.snoc X_25 Nf g_b_24
  refine Win.go st_25 ?_
  clear st_25 W_25 V_25 Ar_25 q_25 S_25 N_25 H_25 G_25 X_24 e_24
  show Win p.tables e below _ (T_25.setTop (mkF m 54 #[.val (.long q0), .second, .val (.long q1), .second, .val (.long q2), .second, .val (.long q3), .second, .val (.long q4), .second, .val (.long q5), .second, .val (.ref b_15), .val (.ref b_18), .val (.ref b_21), .unset, .unset, .unset, .unset, .unset, .unset, .unset, .unset, .unset, .unset, .unset, .unset, .unset, .unset] [(.ref b_24)]))
  refine s_dup (pc' := 55) X_25.here hx (hb hby at_54) rfl rfl ?_
  refine s_iconst (pc' := 56) (z := (1 : Int32)) X_25.here hx (hb hby at_55) rfl rfl ?_
  refine s_lloadN (pc' := 57) X_25.here hx (hb hby at_56) rfl rfl ?_
  refine Win.go (fun _ k => X_25.ldc2Long hx hown (mvT hZ (hw _ (List.mem_of_getElem? (i := 1) rfl))) (g := (mkF m 57 #[.val (.long q0), .second, .val (.long q1), .second, .val (.long q2), .second, .val (.long q3), .second, .val (.long q4), .second, .val (.long q5), .second, .val (.ref b_15), .val (.ref b_18), .val (.ref b_21), .unset, .unset, .unset, .unset, .unset, .unset, .unset, .unset, .unset, .unset, .unset, .unset, .unset, .unset] [(.long q1), (.int (1 : Int32)), (.ref b_24), (.ref b_24)])) rfl (hb hby at_57) _ k) ?_
  show Win p.tables e below _ (T_25.setTop (mkF m 60 #[.val (.long q0), .second, .val (.long q1), .second, .val (.long q2), .second, .val (.long q3), .second, .val (.long q4), .second, .val (.long q5), .second, .val (.ref b_15), .val (.ref b_18), .val (.ref b_21), .unset, .unset, .unset, .unset, .unset, .unset, .unset, .unset, .unset, .unset, .unset, .unset, .unset, .unset] [(.long (-1 : Int64)), (.long q1), (.int (1 : Int32)), (.ref b_24), (.ref b_24)]))
  refine s_lxor (pc' := 61) X_25.here hx (hb hby at_60) rfl ?_
  obtain ⟨cl_26, Ar_26, q_26, S_26, N_26, H_26, G_26⟩ := V_b_24
  obtain ⟨T_26, h_26, X_26, e_26, W_26, st_26⟩ := stJ X_25 hx hZ e_25 Ar_26 (j := (1 : Int32)) (inb_of S_26 ⟨by decide, by decide⟩) (g := (mkF m 61 #[.val (.long q0), .second, .val (.long q1), .second, .val (.long q2), .second, .val (.long q3), .second, .val (.long q4), .second, .val (.long q5), .second, .val (.ref b_15), .val (.ref b_18), .val (.ref b_21), .unset, .unset, .unset, .unset, .unset, .unset, .unset, .unset, .unset, .unset, .unset, .unset, .unset, .unset] [(.long (q1 ^^^ (-1 : Int64))), (.int (1 : Int32)), (.ref b_24), (.ref b_24)])) rfl rfl (hb hby at_61)
  have V_26 := Arv.set Ar_26 q_26 S_26 N_26 H_26 G_26 rfl W_26 1 rfl (Nat.le_of_ble_eq_true rfl)
  replace V_b_15 := V_b_15.other W_26 ne_b_15_b_24
  replace E_b_15 := E_b_15.wr W_26
  replace V_b_18 := V_b_18.other W_26 ne_b_18_b_24
  replace E_b_18 := E_b_18.wr W_26
  replace V_b_21 := V_b_21.other W_26 ne_b_21_b_24
  replace E_b_21 := E_b_21.wr W_26
  replace E_b_24 := E_b_24.wr W_26
  replace lt_b_15 := Nat.lt_of_lt_of_le lt_b_15 (Keep.of_wr W_26).1
  replace lt_b_18 := Nat.lt_of_lt_of_le lt_b_18 (Keep.of_wr W_26).1
  replace lt_b_21 := Nat.lt_of_lt_of_le lt_b_21 (Keep.of_wr W_26).1
  replace lt_b_24 := Nat.lt_of_lt_of_le lt_b_24 (Keep.of_wr W_26).1
  replace Zs := Nat.le_trans Zs (Keep.of_wr W_26).1
  replace V_b_24 : Arv Z h_26 b_24 k_24 .long (2 : Int32) [(.long (q0 ^^^ (-1 : Int64))), (.long (q1 ^^^ (-1 : Int64)))] (.long (0 : Int64)) := V_26
  replace Nf := Fr.snoc X_26 Nf g_b_24
  refine Win.go st_26 ?_
  clear st_26 W_26 V_26 Ar_26 q_26 S_26 N_26 H_26 G_26 X_25 e_25
  show Win p.tables e below _ (T_26.setTop (mkF m 62 #[.val (.long q0), .second, .val (.long q1), .second, .val (.long q2), .second, .val (.long q3), .second, .val (.long q4), .second, .val (.long q5), .second, .val (.ref b_15), .val (.ref b_18), .val (.ref b_21), .unset, .unset, .unset, .unset, .unset, .unset, .unset, .unset, .unset, .unset, .unset, .unset, .unset, .unset] [(.ref b_24)]))
  refine s_astore (pc' := 64) (l' := #[.val (.long q0), .second, .val (.long q1), .second, .val (.long q2), .second, .val (.long q3), .second, .val (.long q4), .second, .val (.long q5), .second, .val (.ref b_15), .val (.ref b_18), .val (.ref b_21), .val (.ref b_24), .unset, .unset, .unset, .unset, .unset, .unset, .unset, .unset, .unset, .unset, .unset, .unset, .unset]) X_26.here hx (hb hby at_62) rfl rfl rfl ?_
  refine s_iconst (pc' := 65) (z := (0 : Int32)) X_26.here hx (hb hby at_64) rfl rfl ?_
  obtain ⟨T_27, h_27, k_27, X_27, e_27, Ex_27, A_27, EA_27, st_27⟩ := newPE X_26 hx hZ (hw _ (List.mem_of_getElem? (i := 0) rfl)) e_26 (g := (mkF m 65 #[.val (.long q0), .second, .val (.long q1), .second, .val (.long q2), .second, .val (.long q3), .second, .val (.long q4), .second, .val (.long q5), .second, .val (.ref b_15), .val (.ref b_18), .val (.ref b_21), .val (.ref b_24), .unset, .unset, .unset, .unset, .unset, .unset, .unset, .unset, .unset, .unset, .unset, .unset, .unset] [(.int (0 : Int32))])) rfl (hb hby at_65) rfl (by decide) (cap := 0) (by decide) (by decide) (by decide) (by decide) (ad := "[J") (by decide)
  obtain ⟨b_27, g_27⟩ : ∃ z, z = h_26.size := ⟨_, rfl⟩
  have ne_b_15_b_27 : b_15 ≠ b_27 := Nat.ne_of_lt (Nat.lt_of_lt_of_le lt_b_15 (Nat.le_of_eq g_27.symm))
  have ne_b_18_b_27 : b_18 ≠ b_27 := Nat.ne_of_lt (Nat.lt_of_lt_of_le lt_b_18 (Nat.le_of_eq g_27.symm))
  have ne_b_21_b_27 : b_21 ≠ b_27 := Nat.ne_of_lt (Nat.lt_of_lt_of_le lt_b_21 (Nat.le_of_eq g_27.symm))
  have ne_b_24_b_27 : b_24 ≠ b_27 := Nat.ne_of_lt (Nat.lt_of_lt_of_le lt_b_24 (Nat.le_of_eq g_27.symm))
  have g_b_27 : n0 ≤ b_27 := Nat.le_trans Zs (Nat.le_of_eq g_27.symm)
  rw [← g_27] at A_27 EA_27 st_27
  replace V_b_15 := V_b_15.ext Ex_27
  replace E_b_15 := E_b_15.ext Ex_27
  replace V_b_18 := V_b_18.ext Ex_27
  replace E_b_18 := E_b_18.ext Ex_27
  replace V_b_21 := V_b_21.ext Ex_27
  replace E_b_21 := E_b_21.ext Ex_27
  replace V_b_24 := V_b_24.ext Ex_27
  replace E_b_24 := E_b_24.ext Ex_27
  replace lt_b_15 := Nat.lt_of_lt_of_le lt_b_15 Ex_27.1
  replace lt_b_18 := Nat.lt_of_lt_of_le lt_b_18 Ex_27.1
  replace lt_b_21 := Nat.lt_of_lt_of_le lt_b_21 Ex_27.1
  replace lt_b_24 := Nat.lt_of_lt_of_le lt_b_24 Ex_27.1
  replace Zs := Nat.le_trans Zs Ex_27.1
  have V_b_27 : Arv Z h_27 b_27 k_27 .long (0 : Int32) [] (.long (0 : Int64)) := (Arv.new A_27 (by decide)).pad (pad_rep [] (.long (0 : Int64)) 0)
  have lt_b_27 := V_b_27.lt
  have E_b_27 := EA_27
  refine Win.go st_27 ?_
  clear st_27 Ex_27 A_27 EA_27 g_27 X_26 e_26
  show Win p.tables e below _ (T_27.setTop (mkF m 67 #[.val (.long q0), .second, .val (.long q1), .second, .val (.long q2), .second, .val (.long q3), .second, .val (.long q4), .second, .val (.long q5), .second, .val (.ref b_15), .val (.ref b_18), .val (.ref b_21), .val (.ref b_24), .unset, .unset, .unset, .unset, .unset, .unset, .unset, .unset, .unset, .unset, .unset, .unset, .unset] [(.ref b_27)]))
  refine s_astore (pc' := 69) (l' := #[.val (.long q0), .second, .val (.long q1), .second, .val (.long q2), .second, .val (.long q3), .second, .val (.long q4), .second, .val (.long q5), .second, .val (.ref b_15), .val (.ref b_18), .val (.ref b_21), .val (.ref b_24), .val (.ref b_27), .unset, .unset, .unset, .unset, .unset, .unset, .unset, .unset, .unset, .unset, .unset, .unset]) X_27.here hx (hb hby at_67) rfl rfl rfl ?_
  refine s_iconst (pc' := 70) (z := (0 : Int32)) X_27.here hx (hb hby at_69) rfl rfl ?_
  obtain ⟨T_28, h_28, k_28, X_28, e_28, Ex_28, A_28, EA_28, st_28⟩ := newPE X_27 hx hZ (hw _ (List.mem_of_getElem? (i := 0) rfl)) e_27 (g := (mkF m 70 #[.val (.long q0), .second, .val (.long q1), .second, .val (.long q2), .second, .val (.long q3), .second, .val (.long q4), .second, .val (.long q5), .second, .val (.ref b_15), .val (.ref b_18), .val (.ref b_21), .val (.ref b_24), .val (.ref b_27), .unset, .unset, .unset, .unset, .unset, .unset, .unset, .unset, .unset, .unset, .unset, .unset] [(.int (0 : Int32))])) rfl (hb hby at_70) rfl (by decide) (cap := 0) (by decide) (by decide) (by decide) (by decide) (ad := "[J") (by decide)
  obtain ⟨b_28, g_28⟩ : ∃ z, z = h_27.size := ⟨_, rfl⟩
  have ne_b_15_b_28 : b_15 ≠ b_28 := Nat.ne_of_lt (Nat.lt_of_lt_of_le lt_b_15 (Nat.le_of_eq g_28.symm))
  have ne_b_18_b_28 : b_18 ≠ b_28 := Nat.ne_of_lt (Nat.lt_of_lt_of_le lt_b_18 (Nat.le_of_eq g_28.symm))
  have ne_b_21_b_28 : b_21 ≠ b_28 := Nat.ne_of_lt (Nat.lt_of_lt_of_le lt_b_21 (Nat.le_of_eq g_28.symm))
  have ne_b_24_b_28 : b_24 ≠ b_28 := Nat.ne_of_lt (Nat.lt_of_lt_of_le lt_b_24 (Nat.le_of_eq g_28.symm))
  have ne_b_27_b_28 : b_27 ≠ b_28 := Nat.ne_of_lt (Nat.lt_of_lt_of_le lt_b_27 (Nat.le_of_eq g_28.symm))
  have g_b_28 : n0 ≤ b_28 := Nat.le_trans Zs (Nat.le_of_eq g_28.symm)
  rw [← g_28] at A_28 EA_28 st_28
  replace V_b_15 := V_b_15.ext Ex_28
  replace E_b_15 := E_b_15.ext Ex_28
  replace V_b_18 := V_b_18.ext Ex_28
  replace E_b_18 := E_b_18.ext Ex_28
  replace V_b_21 := V_b_21.ext Ex_28
  replace E_b_21 := E_b_21.ext Ex_28
  replace V_b_24 := V_b_24.ext Ex_28
  replace E_b_24 := E_b_24.ext Ex_28
  replace V_b_27 := V_b_27.ext Ex_28
  replace E_b_27 := E_b_27.ext Ex_28
  replace lt_b_15 := Nat.lt_of_lt_of_le lt_b_15 Ex_28.1
  replace lt_b_18 := Nat.lt_of_lt_of_le lt_b_18 Ex_28.1
  replace lt_b_21 := Nat.lt_of_lt_of_le lt_b_21 Ex_28.1
  replace lt_b_24 := Nat.lt_of_lt_of_le lt_b_24 Ex_28.1
  replace lt_b_27 := Nat.lt_of_lt_of_le lt_b_27 Ex_28.1
  replace Zs := Nat.le_trans Zs Ex_28.1
  have V_b_28 : Arv Z h_28 b_28 k_28 .long (0 : Int32) [] (.long (0 : Int64)) := (Arv.new A_28 (by decide)).pad (pad_rep [] (.long (0 : Int64)) 0)
  have lt_b_28 := V_b_28.lt
  have E_b_28 := EA_28
  refine Win.go st_28 ?_
  clear st_28 Ex_28 A_28 EA_28 g_28 X_27 e_27
  show Win p.tables e below _ (T_28.setTop (mkF m 72 #[.val (.long q0), .second, .val (.long q1), .second, .val (.long q2), .second, .val (.long q3), .second, .val (.long q4), .second, .val (.long q5), .second, .val (.ref b_15), .val (.ref b_18), .val (.ref b_21), .val (.ref b_24), .val (.ref b_27), .unset, .unset, .unset, .unset, .unset, .unset, .unset, .unset, .unset, .unset, .unset, .unset] [(.ref b_28)]))
  refine s_astore (pc' := 74) (l' := #[.val (.long q0), .second, .val (.long q1), .second, .val (.long q2), .second, .val (.long q3), .second, .val (.long q4), .second, .val (.long q5), .second, .val (.ref b_15), .val (.ref b_18), .val (.ref b_21), .val (.ref b_24), .val (.ref b_27), .val (.ref b_28), .unset, .unset, .unset, .unset, .unset, .unset, .unset, .unset, .unset, .unset, .unset]) X_28.here hx (hb hby at_72) rfl rfl rfl ?_
  refine s_iconst (pc' := 75) (z := (0 : Int32)) X_28.here hx (hb hby at_74) rfl rfl ?_
  obtain ⟨T_29, h_29, k_29, X_29, e_29, Ex_29, A_29, EA_29, st_29⟩ := newPE X_28 hx hZ (hw _ (List.mem_of_getElem? (i := 0) rfl)) e_28 (g := (mkF m 75 #[.val (.long q0), .second, .val (.long q1), .second, .val (.long q2), .second, .val (.long q3), .second, .val (.long q4), .second, .val (.long q5), .second, .val (.ref b_15), .val (.ref b_18), .val (.ref b_21), .val (.ref b_24), .val (.ref b_27), .val (.ref b_28), .unset, .unset, .unset, .unset, .unset, .unset, .unset, .unset, .unset, .unset, .unset] [(.int (0 : Int32))])) rfl (hb hby at_75) rfl (by decide) (cap := 0) (by decide) (by decide) (by decide) (by decide) (ad := "[J") (by decide)
  obtain ⟨b_29, g_29⟩ : ∃ z, z = h_28.size := ⟨_, rfl⟩
  have ne_b_15_b_29 : b_15 ≠ b_29 := Nat.ne_of_lt (Nat.lt_of_lt_of_le lt_b_15 (Nat.le_of_eq g_29.symm))
  have ne_b_18_b_29 : b_18 ≠ b_29 := Nat.ne_of_lt (Nat.lt_of_lt_of_le lt_b_18 (Nat.le_of_eq g_29.symm))
  have ne_b_21_b_29 : b_21 ≠ b_29 := Nat.ne_of_lt (Nat.lt_of_lt_of_le lt_b_21 (Nat.le_of_eq g_29.symm))
  have ne_b_24_b_29 : b_24 ≠ b_29 := Nat.ne_of_lt (Nat.lt_of_lt_of_le lt_b_24 (Nat.le_of_eq g_29.symm))
  have ne_b_27_b_29 : b_27 ≠ b_29 := Nat.ne_of_lt (Nat.lt_of_lt_of_le lt_b_27 (Nat.le_of_eq g_29.symm))
  have ne_b_28_b_29 : b_28 ≠ b_29 := Nat.ne_of_lt (Nat.lt_of_lt_of_le lt_b_28 (Nat.le_of_eq g_29.symm))
  have g_b_29 : n0 ≤ b_29 := Nat.le_trans Zs (Nat.le_of_eq g_29.symm)
  rw [← g_29] at A_29 EA_29 st_29
  replace V_b_15 := V_b_15.ext Ex_29
  replace E_b_15 := E_b_15.ext Ex_29
  replace V_b_18 := V_b_18.ext Ex_29
  replace E_b_18 := E_b_18.ext Ex_29
  replace V_b_21 := V_b_21.ext Ex_29
  replace E_b_21 := E_b_21.ext Ex_29
  replace V_b_24 := V_b_24.ext Ex_29
  replace E_b_24 := E_b_24.ext Ex_29
  replace V_b_27 := V_b_27.ext Ex_29
  replace E_b_27 := E_b_27.ext Ex_29
  replace V_b_28 := V_b_28.ext Ex_29
  replace E_b_28 := E_b_28.ext Ex_29
  replace lt_b_15 := Nat.lt_of_lt_of_le lt_b_15 Ex_29.1
  replace lt_b_18 := Nat.lt_of_lt_of_le lt_b_18 Ex_29.1
  replace lt_b_21 := Nat.lt_of_lt_of_le lt_b_21 Ex_29.1
  replace lt_b_24 := Nat.lt_of_lt_of_le lt_b_24 Ex_29.1
  replace lt_b_27 := Nat.lt_of_lt_of_le lt_b_27 Ex_29.1
  replace lt_b_28 := Nat.lt_of_lt_of_le lt_b_28 Ex_29.1
  replace Zs := Nat.le_trans Zs Ex_29.1
  have V_b_29 : Arv Z h_29 b_29 k_29 .long (0 : Int32) [] (.long (0 : Int64)) := (Arv.new A_29 (by decide)).pad (pad_rep [] (.long (0 : Int64)) 0)
  have lt_b_29 := V_b_29.lt
  have E_b_29 := EA_29
  refine Win.go st_29 ?_
  clear st_29 Ex_29 A_29 EA_29 g_29 X_28 e_28
  show Win p.tables e below _ (T_29.setTop (mkF m 77 #[.val (.long q0), .second, .val (.long q1), .second, .val (.long q2), .second, .val (.long q3), .second, .val (.long q4), .second, .val (.long q5), .second, .val (.ref b_15), .val (.ref b_18), .val (.ref b_21), .val (.ref b_24), .val (.ref b_27), .val (.ref b_28), .unset, .unset, .unset, .unset, .unset, .unset, .unset, .unset, .unset, .unset, .unset] [(.ref b_29)]))
  refine s_astore (pc' := 79) (l' := #[.val (.long q0), .second, .val (.long q1), .second, .val (.long q2), .second, .val (.long q3), .second, .val (.long q4), .second, .val (.long q5), .second, .val (.ref b_15), .val (.ref b_18), .val (.ref b_21), .val (.ref b_24), .val (.ref b_27), .val (.ref b_28), .val (.ref b_29), .unset, .unset, .unset, .unset, .unset, .unset, .unset, .unset, .unset, .unset]) X_29.here hx (hb hby at_77) rfl rfl rfl ?_
  refine s_iconst (pc' := 80) (z := (0 : Int32)) X_29.here hx (hb hby at_79) rfl rfl ?_
  obtain ⟨T_30, h_30, k_30, X_30, e_30, Ex_30, A_30, EA_30, st_30⟩ := newPE X_29 hx hZ (hw _ (List.mem_of_getElem? (i := 0) rfl)) e_29 (g := (mkF m 80 #[.val (.long q0), .second, .val (.long q1), .second, .val (.long q2), .second, .val (.long q3), .second, .val (.long q4), .second, .val (.long q5), .second, .val (.ref b_15), .val (.ref b_18), .val (.ref b_21), .val (.ref b_24), .val (.ref b_27), .val (.ref b_28), .val (.ref b_29), .unset, .unset, .unset, .unset, .unset, .unset, .unset, .unset, .unset, .unset] [(.int (0 : Int32))])) rfl (hb hby at_80) rfl (by decide) (cap := 0) (by decide) (by decide) (by decide) (by decide) (ad := "[J") (by decide)
  obtain ⟨b_30, g_30⟩ : ∃ z, z = h_29.size := ⟨_, rfl⟩
  have ne_b_15_b_30 : b_15 ≠ b_30 := Nat.ne_of_lt (Nat.lt_of_lt_of_le lt_b_15 (Nat.le_of_eq g_30.symm))
  have ne_b_18_b_30 : b_18 ≠ b_30 := Nat.ne_of_lt (Nat.lt_of_lt_of_le lt_b_18 (Nat.le_of_eq g_30.symm))
  have ne_b_21_b_30 : b_21 ≠ b_30 := Nat.ne_of_lt (Nat.lt_of_lt_of_le lt_b_21 (Nat.le_of_eq g_30.symm))
  have ne_b_24_b_30 : b_24 ≠ b_30 := Nat.ne_of_lt (Nat.lt_of_lt_of_le lt_b_24 (Nat.le_of_eq g_30.symm))
  have ne_b_27_b_30 : b_27 ≠ b_30 := Nat.ne_of_lt (Nat.lt_of_lt_of_le lt_b_27 (Nat.le_of_eq g_30.symm))
  have ne_b_28_b_30 : b_28 ≠ b_30 := Nat.ne_of_lt (Nat.lt_of_lt_of_le lt_b_28 (Nat.le_of_eq g_30.symm))
  have ne_b_29_b_30 : b_29 ≠ b_30 := Nat.ne_of_lt (Nat.lt_of_lt_of_le lt_b_29 (Nat.le_of_eq g_30.symm))
  have g_b_30 : n0 ≤ b_30 := Nat.le_trans Zs (Nat.le_of_eq g_30.symm)
  rw [← g_30] at A_30 EA_30 st_30
  replace V_b_15 := V_b_15.ext Ex_30
  replace E_b_15 := E_b_15.ext Ex_30
  replace V_b_18 := V_b_18.ext Ex_30
  replace E_b_18 := E_b_18.ext Ex_30
  replace V_b_21 := V_b_21.ext Ex_30
  replace E_b_21 := E_b_21.ext Ex_30
  replace V_b_24 := V_b_24.ext Ex_30
  replace E_b_24 := E_b_24.ext Ex_30
  replace V_b_27 := V_b_27.ext Ex_30
  replace E_b_27 := E_b_27.ext Ex_30
  replace V_b_28 := V_b_28.ext Ex_30
  replace E_b_28 := E_b_28.ext Ex_30
  replace V_b_29 := V_b_29.ext Ex_30
  replace E_b_29 := E_b_29.ext Ex_30
  replace lt_b_15 := Nat.lt_of_lt_of_le lt_b_15 Ex_30.1
  replace lt_b_18 := Nat.lt_of_lt_of_le lt_b_18 Ex_30.1
  replace lt_b_21 := Nat.lt_of_lt_of_le lt_b_21 Ex_30.1
  replace lt_b_24 := Nat.lt_of_lt_of_le lt_b_24 Ex_30.1
  replace lt_b_27 := Nat.lt_of_lt_of_le lt_b_27 Ex_30.1
  replace lt_b_28 := Nat.lt_of_lt_of_le lt_b_28 Ex_30.1
  replace lt_b_29 := Nat.lt_of_lt_of_le lt_b_29 Ex_30.1
  replace Zs := Nat.le_trans Zs Ex_30.1
  have V_b_30 : Arv Z h_30 b_30 k_30 .long (0 : Int32) [] (.long (0 : Int64)) := (Arv.new A_30 (by decide)).pad (pad_rep [] (.long (0 : Int64)) 0)
  have lt_b_30 := V_b_30.lt
  have E_b_30 := EA_30
  refine Win.go st_30 ?_
  clear st_30 Ex_30 A_30 EA_30 g_30 X_29 e_29
  show Win p.tables e below _ (T_30.setTop (mkF m 82 #[.val (.long q0), .second, .val (.long q1), .second, .val (.long q2), .second, .val (.long q3), .second, .val (.long q4), .second, .val (.long q5), .second, .val (.ref b_15), .val (.ref b_18), .val (.ref b_21), .val (.ref b_24), .val (.ref b_27), .val (.ref b_28), .val (.ref b_29), .unset, .unset, .unset, .unset, .unset, .unset, .unset, .unset, .unset, .unset] [(.ref b_30)]))
  refine s_astore (pc' := 84) (l' := #[.val (.long q0), .second, .val (.long q1), .second, .val (.long q2), .second, .val (.long q3), .second, .val (.long q4), .second, .val (.long q5), .second, .val (.ref b_15), .val (.ref b_18), .val (.ref b_21), .val (.ref b_24), .val (.ref b_27), .val (.ref b_28), .val (.ref b_29), .val (.ref b_30), .unset, .unset, .unset, .unset, .unset, .unset, .unset, .unset, .unset]) X_30.here hx (hb hby at_82) rfl rfl rfl ?_
  refine s_aload (pc' := 86) X_30.here hx (hb hby at_84) rfl rfl rfl ?_
  refine s_aload (pc' := 88) X_30.here hx (hb hby at_86) rfl rfl rfl ?_
  refine s_aload (pc' := 90) X_30.here hx (hb hby at_88) rfl rfl rfl ?_
  refine s_aload (pc' := 92) X_30.here hx (hb hby at_90) rfl rfl rfl ?_
  obtain ⟨_, _, ⟨T_31, L_31, k_31, n_31⟩, -, X_31, ⟨Lc_31, hQ_31, l_31, y_31, z_31⟩, st_31⟩ := Jvm.LawKit.callS X_30 hx (y := (⟨"com/example/faithful_deputy/faithfuldeputy/Bits", "intersection", "([J[J[J[J)Z"⟩ : MethodName)) hown (mvT hZ (hw _ (List.mem_of_getElem? (i := 2) rfl))) (mvT hZ (hw _ (List.mem_of_getElem? (i := 3) rfl))) (mvT hZ (hw _ (List.mem_of_getElem? (i := 4) rfl))) (mvT hZ (hw _ (List.mem_of_getElem? (i := 5) rfl))) (by decide) (backOf (W := 0) (rm1_2 l Z a0 hw [] b_24 b_15 b_18 b_21 k_24 (q0 ^^^ (-1 : Int64)) (q1 ^^^ (-1 : Int64)) k_15 q0 q1 k_18 q2 q3 k_21 q4 q5 h_30 n0 Zs V_b_24 V_b_15 V_b_18 V_b_21 g_b_24 ne_b_15_b_24 ne_b_18_b_24 ne_b_21_b_24) hZ (hw _ (List.mem_of_getElem? (i := 5) rfl)) (hw _ (List.mem_of_getElem? (i := 4) rfl)) (by decide) (by decide)) (g := (mkF m 92 #[.val (.long q0), .second, .val (.long q1), .second, .val (.long q2), .second, .val (.long q3), .second, .val (.long q4), .second, .val (.long q5), .second, .val (.ref b_15), .val (.ref b_18), .val (.ref b_21), .val (.ref b_24), .val (.ref b_27), .val (.ref b_28), .val (.ref b_29), .val (.ref b_30), .unset, .unset, .unset, .unset, .unset, .unset, .unset, .unset, .unset] [(.ref b_21), (.ref b_18), (.ref b_15), (.ref b_24)])) rfl (by rw [hml]; rfl) (argsL := [(.ref b_24), (.ref b_15), (.ref b_18), (.ref b_21)]) (rest := []) (lenOf pd_0 rfl) rfl (by show 2 * 0 + _ ≤ _; exact Nat.le_of_eq rfl) (hb hby at_92) (fun _ _ => ⟨rfl, e_30, (by decide : 8 + 0 ≤ _), (by decide : 8 + 0 ≤ _)⟩)
  dsimp only [Pt.U, Pt.locs, Pt.cells, Pt.slots] at X_31 l_31 y_31 z_31 st_31 hQ_31
  subst l_31 y_31 z_31
  obtain ⟨h_31, e_31⟩ : ∃ z, T_31.heap = z := ⟨_, rfl⟩
  rw [e_31] at hQ_31
  obtain ⟨Nq_31, K_31, n_31_V_b_24, r1, rfl, hr1⟩ := hQ_31
  replace Nf := Fr.app Nf Nq_31
  replace V_b_15 := V_b_15.keep K_31 (ninS ne_b_15_b_24 nin0)
  replace E_b_15 := E_b_15.keep K_31
  replace V_b_18 := V_b_18.keep K_31 (ninS ne_b_18_b_24 nin0)
  replace E_b_18 := E_b_18.keep K_31
  replace V_b_21 := V_b_21.keep K_31 (ninS ne_b_21_b_24 nin0)
  replace E_b_21 := E_b_21.keep K_31
  clear V_b_24
  replace E_b_24 := E_b_24.keep K_31
  replace V_b_27 := V_b_27.keep K_31 (ninS (Ne.symm ne_b_24_b_27) nin0)
  replace E_b_27 := E_b_27.keep K_31
  replace V_b_28 := V_b_28.keep K_31 (ninS (Ne.symm ne_b_24_b_28) nin0)
  replace E_b_28 := E_b_28.keep K_31
  replace V_b_29 := V_b_29.keep K_31 (ninS (Ne.symm ne_b_24_b_29) nin0)
  replace E_b_29 := E_b_29.keep K_31
  replace V_b_30 := V_b_30.keep K_31 (ninS (Ne.symm ne_b_24_b_30) nin0)
  replace E_b_30 := E_b_30.keep K_31
  replace lt_b_15 := Nat.lt_of_lt_of_le lt_b_15 K_31.1
  replace lt_b_18 := Nat.lt_of_lt_of_le lt_b_18 K_31.1
  replace lt_b_21 := Nat.lt_of_lt_of_le lt_b_21 K_31.1
  replace lt_b_24 := Nat.lt_of_lt_of_le lt_b_24 K_31.1
  replace lt_b_27 := Nat.lt_of_lt_of_le lt_b_27 K_31.1
  replace lt_b_28 := Nat.lt_of_lt_of_le lt_b_28 K_31.1
  replace lt_b_29 := Nat.lt_of_lt_of_le lt_b_29 K_31.1
  replace lt_b_30 := Nat.lt_of_lt_of_le lt_b_30 K_31.1
  replace Zs := Nat.le_trans Zs K_31.1
  have V_b_24 := n_31_V_b_24
  refine Win.go st_31 ?_
  clear st_31 Nq_31 X_30 e_30 K_31
  show Win p.tables e below _ (T_31.setTop (mkF m 95 #[.val (.long q0), .second, .val (.long q1), .second, .val (.long q2), .second, .val (.long q3), .second, .val (.long q4), .second, .val (.long q5), .second, .val (.ref b_15), .val (.ref b_18), .val (.ref b_21), .val (.ref b_24), .val (.ref b_27), .val (.ref b_28), .val (.ref b_29), .val (.ref b_30), .unset, .unset, .unset, .unset, .unset, .unset, .unset, .unset, .unset] [(.int r1)]))
  rw [own_or0] at hr1
  refine s_istore (pc' := 97) (l' := #[.val (.long q0), .second, .val (.long q1), .second, .val (.long q2), .second, .val (.long q3), .second, .val (.long q4), .second, .val (.long q5), .second, .val (.ref b_15), .val (.ref b_18), .val (.ref b_21), .val (.ref b_24), .val (.ref b_27), .val (.ref b_28), .val (.ref b_29), .val (.ref b_30), .val (.int r1), .unset, .unset, .unset, .unset, .unset, .unset, .unset, .unset]) X_31.here hx (hb hby at_95) rfl rfl ?_
  refine s_aload (pc' := 99) X_31.here hx (hb hby at_97) rfl rfl rfl ?_
  refine s_aload (pc' := 101) X_31.here hx (hb hby at_99) rfl rfl rfl ?_
  refine s_aload (pc' := 103) X_31.here hx (hb hby at_101) rfl rfl rfl ?_
  refine s_aload (pc' := 105) X_31.here hx (hb hby at_103) rfl rfl rfl ?_
  obtain ⟨_, _, ⟨T_32, L_32, k_32, n_32⟩, -, X_32, ⟨Lc_32, hQ_32, l_32, y_32, z_32⟩, st_32⟩ := Jvm.LawKit.callS X_31 hx (y := (⟨"com/example/faithful_deputy/faithfuldeputy/Bits", "intersection", "([J[J[J[J)Z"⟩ : MethodName)) hown (mvT hZ (hw _ (List.mem_of_getElem? (i := 2) rfl))) (mvT hZ (hw _ (List.mem_of_getElem? (i := 3) rfl))) (mvT hZ (hw _ (List.mem_of_getElem? (i := 4) rfl))) (mvT hZ (hw _ (List.mem_of_getElem? (i := 5) rfl))) (by decide) (backOf (W := 0) (rm1_0 l Z a0 hw [] b_27 b_28 b_29 b_30 k_27 k_28 k_29 k_30 h_31 n0 Zs V_b_27 V_b_28 V_b_29 V_b_30 g_b_27 (Ne.symm ne_b_27_b_28) (Ne.symm ne_b_27_b_29) (Ne.symm ne_b_27_b_30)) hZ (hw _ (List.mem_of_getElem? (i := 5) rfl)) (hw _ (List.mem_of_getElem? (i := 4) rfl)) (by decide) (by decide)) (g := (mkF m 105 #[.val (.long q0), .second, .val (.long q1), .second, .val (.long q2), .second, .val (.long q3), .second, .val (.long q4), .second, .val (.long q5), .second, .val (.ref b_15), .val (.ref b_18), .val (.ref b_21), .val (.ref b_24), .val (.ref b_27), .val (.ref b_28), .val (.ref b_29), .val (.ref b_30), .val (.int r1), .unset, .unset, .unset, .unset, .unset, .unset, .unset, .unset] [(.ref b_30), (.ref b_29), (.ref b_28), (.ref b_27)])) rfl (by rw [hml]; rfl) (argsL := [(.ref b_27), (.ref b_28), (.ref b_29), (.ref b_30)]) (rest := []) (lenOf pd_0 rfl) rfl (by show 2 * 0 + _ ≤ _; exact Nat.le_of_eq rfl) (hb hby at_105) (fun _ _ => ⟨rfl, e_31, (by decide : 8 + 0 ≤ _), (by decide : 8 + 0 ≤ _)⟩)
  dsimp only [Pt.U, Pt.locs, Pt.cells, Pt.slots] at X_32 l_32 y_32 z_32 st_32 hQ_32
  subst l_32 y_32 z_32
  obtain ⟨Nq_32, e_32, rfl⟩ := hQ_32
  replace Nf := Fr.app Nf Nq_32
  refine Win.go st_32 ?_
  clear st_32 Nq_32 X_31 e_31
  show Win p.tables e below _ (T_32.setTop (mkF m 108 #[.val (.long q0), .second, .val (.long q1), .second, .val (.long q2), .second, .val (.long q3), .second, .val (.long q4), .second, .val (.long q5), .second, .val (.ref b_15), .val (.ref b_18), .val (.ref b_21), .val (.ref b_24), .val (.ref b_27), .val (.ref b_28), .val (.ref b_29), .val (.ref b_30), .val (.int r1), .unset, .unset, .unset, .unset, .unset, .unset, .unset, .unset] [(.int (0 : Int32))]))
  refine s_istore (pc' := 110) (l' := #[.val (.long q0), .second, .val (.long q1), .second, .val (.long q2), .second, .val (.long q3), .second, .val (.long q4), .second, .val (.long q5), .second, .val (.ref b_15), .val (.ref b_18), .val (.ref b_21), .val (.ref b_24), .val (.ref b_27), .val (.ref b_28), .val (.ref b_29), .val (.ref b_30), .val (.int r1), .val (.int (0 : Int32)), .unset, .unset, .unset, .unset, .unset, .unset, .unset]) X_32.here hx (hb hby at_108) rfl rfl ?_
  refine s_lloadN (pc' := 111) X_32.here hx (hb hby at_110) rfl rfl ?_
  refine s_lload (pc' := 113) X_32.here hx (hb hby at_111) rfl rfl ?_
  refine s_land (pc' := 114) X_32.here hx (hb hby at_113) rfl ?_
  refine s_lload (pc' := 116) X_32.here hx (hb hby at_114) rfl rfl ?_
  refine s_land (pc' := 117) X_32.here hx (hb hby at_116) rfl ?_
  refine s_lstore (pc' := 119) (l' := #[.val (.long q0), .second, .val (.long q1), .second, .val (.long q2), .second, .val (.long q3), .second, .val (.long q4), .second, .val (.long q5), .second, .val (.ref b_15), .val (.ref b_18), .val (.ref b_21), .val (.ref b_24), .val (.ref b_27), .val (.ref b_28), .val (.ref b_29), .val (.ref b_30), .val (.int r1), .val (.int (0 : Int32)), .val (.long ((q0 &&& q2) &&& q4)), .second, .unset, .unset, .unset, .unset, .unset]) X_32.here hx (hb hby at_117) rfl rfl ?_
  refine s_lloadN (pc' := 120) X_32.here hx (hb hby at_119) rfl rfl ?_
  refine s_lload (pc' := 122) X_32.here hx (hb hby at_120) rfl rfl ?_
  refine s_land (pc' := 123) X_32.here hx (hb hby at_122) rfl ?_
  refine s_lload (pc' := 125) X_32.here hx (hb hby at_123) rfl rfl ?_
  refine s_land (pc' := 126) X_32.here hx (hb hby at_125) rfl ?_
  refine s_lstore (pc' := 128) (l' := #[.val (.long q0), .second, .val (.long q1), .second, .val (.long q2), .second, .val (.long q3), .second, .val (.long q4), .second, .val (.long q5), .second, .val (.ref b_15), .val (.ref b_18), .val (.ref b_21), .val (.ref b_24), .val (.ref b_27), .val (.ref b_28), .val (.ref b_29), .val (.ref b_30), .val (.int r1), .val (.int (0 : Int32)), .val (.long ((q0 &&& q2) &&& q4)), .second, .val (.long ((q1 &&& q3) &&& q5)), .second, .unset, .unset, .unset]) X_32.here hx (hb hby at_126) rfl rfl ?_
  have J147 : ∀ ze : Int32, ((ze.toInt = 1 ∧ (¬ (((q0 &&& q2) &&& q4).toInt = 0 ∧ ((q1 &&& q3) &&& q5).toInt = 0))) ∨ (ze.toInt = 0 ∧ ¬ (¬ (((q0 &&& q2) &&& q4).toInt = 0 ∧ ((q1 &&& q3) &&& q5).toInt = 0)))) → Win p.tables e below (PostQ s (Q0 Z q0 q1 q2 q3 q4 q5 h0 n0) room_1.cells room_1.slots) (T_32.setTop (mkF m 147 #[.val (.long q0), .second, .val (.long q1), .second, .val (.long q2), .second, .val (.long q3), .second, .val (.long q4), .second, .val (.long q5), .second, .val (.ref b_15), .val (.ref b_18), .val (.ref b_21), .val (.ref b_24), .val (.ref b_27), .val (.ref b_28), .val (.ref b_29), .val (.ref b_30), .val (.int r1), .val (.int (0 : Int32)), .val (.long ((q0 &&& q2) &&& q4)), .second, .val (.long ((q1 &&& q3) &&& q5)), .second, .unset, .unset, .unset] [(.int ze)])) := by
    intro ze hJ147
    refine s_istore (pc' := 149) (l' := #[.val (.long q0), .second, .val (.long q1), .second, .val (.long q2), .second, .val (.long q3), .second, .val (.long q4), .second, .val (.long q5), .second, .val (.ref b_15), .val (.ref b_18), .val (.ref b_21), .val (.ref b_24), .val (.ref b_27), .val (.ref b_28), .val (.ref b_29), .val (.ref b_30), .val (.int r1), .val (.int (0 : Int32)), .val (.long ((q0 &&& q2) &&& q4)), .second, .val (.long ((q1 &&& q3) &&& q5)), .second, .val (.int ze), .unset, .unset]) X_32.here hx (hb hby at_147) rfl rfl ?_
    refine s_aload (pc' := 151) X_32.here hx (hb hby at_149) rfl rfl rfl ?_
    obtain ⟨cl_33, Ar_33, q_33, S_33, N_33, H_33, G_33⟩ := id V_b_24
    refine Win.go (fun _ k => X_32.arraylength hx (by rw [e_32]; exact Ar_33.1) (State.isArrayOf_alike hZ.alike Ar_33.2.1) (g := (mkF m 151 #[.val (.long q0), .second, .val (.long q1), .second, .val (.long q2), .second, .val (.long q3), .second, .val (.long q4), .second, .val (.long q5), .second, .val (.ref b_15), .val (.ref b_18), .val (.ref b_21), .val (.ref b_24), .val (.ref b_27), .val (.ref b_28), .val (.ref b_29), .val (.ref b_30), .val (.int r1), .val (.int (0 : Int32)), .val (.long ((q0 &&& q2) &&& q4)), .second, .val (.long ((q1 &&& q3) &&& q5)), .second, .val (.int ze), .unset, .unset] [(.ref b_24)])) rfl rfl (hb hby at_151) _ k) ?_
    rw [len_of S_33 N_33]
    clear Ar_33 q_33 S_33 N_33 H_33 G_33
    show Win p.tables e below _ (T_32.setTop (mkF m 152 #[.val (.long q0), .second, .val (.long q1), .second, .val (.long q2), .second, .val (.long q3), .second, .val (.long q4), .second, .val (.long q5), .second, .val (.ref b_15), .val (.ref b_18), .val (.ref b_21), .val (.ref b_24), .val (.ref b_27), .val (.ref b_28), .val (.ref b_29), .val (.ref b_30), .val (.int r1), .val (.int (0 : Int32)), .val (.long ((q0 &&& q2) &&& q4)), .second, .val (.long ((q1 &&& q3) &&& q5)), .second, .val (.int ze), .unset, .unset] [(.int (2 : Int32))]))
    refine s_iconst (pc' := 153) (z := (2 : Int32)) X_32.here hx (hb hby at_152) rfl rfl ?_
    refine s_icmpNo (pc' := 156) X_32.here hx (hb hby at_153) rfl (teqI (x := (2 : Int32)) (y := (2 : Int32)) (by decide)).2 ?_
    refine s_aload (pc' := 158) X_32.here hx (hb hby at_156) rfl rfl rfl ?_
    refine s_iconst (pc' := 159) (z := (0 : Int32)) X_32.here hx (hb hby at_158) rfl rfl ?_
    obtain ⟨cl_34, Ar_34, q_34, S_34, N_34, H_34, G_34⟩ := id V_b_24
    have hi_34 : ¬ ((0 : Int32) < 0 ∨ cl_34.slots.size ≤ ((0 : Int32)).toNatClampNeg) := inb_of S_34 ⟨by decide, by decide⟩
    refine Win.go (fun _ k => X_32.laload hx (j := (0 : Int32)) (v := (.long ((q0 &&& q2) &&& q4))) (by rw [e_32]; exact Ar_34.1) (State.isArrayOf_alike hZ.alike Ar_34.2.1) Ar_34.2.2 hi_34 (H_34.at hi_34 rfl) (g := (mkF m 159 #[.val (.long q0), .second, .val (.long q1), .second, .val (.long q2), .second, .val (.long q3), .second, .val (.long q4), .second, .val (.long q5), .second, .val (.ref b_15), .val (.ref b_18), .val (.ref b_21), .val (.ref b_24), .val (.ref b_27), .val (.ref b_28), .val (.ref b_29), .val (.ref b_30), .val (.int r1), .val (.int (0 : Int32)), .val (.long ((q0 &&& q2) &&& q4)), .second, .val (.long ((q1 &&& q3) &&& q5)), .second, .val (.int ze), .unset, .unset] [(.int (0 : Int32)), (.ref b_24)])) rfl rfl (hb hby at_159) _ k) ?_
    show Win p.tables e below _ (T_32.setTop (mkF m 160 #[.val (.long q0), .second, .val (.long q1), .second, .val (.long q2), .second, .val (.long q3), .second, .val (.long q4), .second, .val (.long q5), .second, .val (.ref b_15), .val (.ref b_18), .val (.ref b_21), .val (.ref b_24), .val (.ref b_27), .val (.ref b_28), .val (.ref b_29), .val (.ref b_30), .val (.int r1), .val (.int (0 : Int32)), .val (.long ((q0 &&& q2) &&& q4)), .second, .val (.long ((q1 &&& q3) &&& q5)), .second, .val (.int ze), .unset, .unset] [(.long ((q0 &&& q2) &&& q4))]))
    clear Ar_34 q_34 S_34 N_34 H_34 G_34 hi_34
    refine s_lload (pc' := 162) X_32.here hx (hb hby at_160) rfl rfl ?_
    refine s_lcmp (pc' := 163) X_32.here hx (hb hby at_162) rfl ?_
    refine s_ifNo (pc' := 166) X_32.here hx (hb hby at_163) rfl (teqL (x := ((q0 &&& q2) &&& q4)) (y := ((q0 &&& q2) &&& q4)) (rfl)).2 ?_
    refine s_aload (pc' := 168) X_32.here hx (hb hby at_166) rfl rfl rfl ?_
    refine s_iconst (pc' := 169) (z := (1 : Int32)) X_32.here hx (hb hby at_168) rfl rfl ?_
    obtain ⟨cl_35, Ar_35, q_35, S_35, N_35, H_35, G_35⟩ := id V_b_24
    have hi_35 : ¬ ((1 : Int32) < 0 ∨ cl_35.slots.size ≤ ((1 : Int32)).toNatClampNeg) := inb_of S_35 ⟨by decide, by decide⟩
    refine Win.go (fun _ k => X_32.laload hx (j := (1 : Int32)) (v := (.long ((q1 &&& q3) &&& q5))) (by rw [e_32]; exact Ar_35.1) (State.isArrayOf_alike hZ.alike Ar_35.2.1) Ar_35.2.2 hi_35 (H_35.at hi_35 rfl) (g := (mkF m 169 #[.val (.long q0), .second, .val (.long q1), .second, .val (.long q2), .second, .val (.long q3), .second, .val (.long q4), .second, .val (.long q5), .second, .val (.ref b_15), .val (.ref b_18), .val (.ref b_21), .val (.ref b_24), .val (.ref b_27), .val (.ref b_28), .val (.ref b_29), .val (.ref b_30), .val (.int r1), .val (.int (0 : Int32)), .val (.long ((q0 &&& q2) &&& q4)), .second, .val (.long ((q1 &&& q3) &&& q5)), .second, .val (.int ze), .unset, .unset] [(.int (1 : Int32)), (.ref b_24)])) rfl rfl (hb hby at_169) _ k) ?_
    show Win p.tables e below _ (T_32.setTop (mkF m 170 #[.val (.long q0), .second, .val (.long q1), .second, .val (.long q2), .second, .val (.long q3), .second, .val (.long q4), .second, .val (.long q5), .second, .val (.ref b_15), .val (.ref b_18), .val (.ref b_21), .val (.ref b_24), .val (.ref b_27), .val (.ref b_28), .val (.ref b_29), .val (.ref b_30), .val (.int r1), .val (.int (0 : Int32)), .val (.long ((q0 &&& q2) &&& q4)), .second, .val (.long ((q1 &&& q3) &&& q5)), .second, .val (.int ze), .unset, .unset] [(.long ((q1 &&& q3) &&& q5))]))
    clear Ar_35 q_35 S_35 N_35 H_35 G_35 hi_35
    refine s_lload (pc' := 172) X_32.here hx (hb hby at_170) rfl rfl ?_
    refine s_lcmp (pc' := 173) X_32.here hx (hb hby at_172) rfl ?_
    refine s_ifNo (pc' := 176) X_32.here hx (hb hby at_173) rfl (teqL (x := ((q1 &&& q3) &&& q5)) (y := ((q1 &&& q3) &&& q5)) (rfl)).2 ?_
    refine s_iconst (pc' := 177) (z := (1 : Int32)) X_32.here hx (hb hby at_176) rfl rfl ?_
    refine s_goto (pc' := 181) X_32.here hx (hb hby at_177) (by decide) (by decide) ?_
    refine s_istore (pc' := 183) (l' := #[.val (.long q0), .second, .val (.long q1), .second, .val (.long q2), .second, .val (.long q3), .second, .val (.long q4), .second, .val (.long q5), .second, .val (.ref b_15), .val (.ref b_18), .val (.ref b_21), .val (.ref b_24), .val (.ref b_27), .val (.ref b_28), .val (.ref b_29), .val (.ref b_30), .val (.int r1), .val (.int (0 : Int32)), .val (.long ((q0 &&& q2) &&& q4)), .second, .val (.long ((q1 &&& q3) &&& q5)), .second, .val (.int ze), .val (.int (1 : Int32)), .unset]) X_32.here hx (hb hby at_181) rfl rfl ?_
    refine s_aload (pc' := 185) X_32.here hx (hb hby at_183) rfl rfl rfl ?_
    refine s_iconst (pc' := 186) (z := (0 : Int32)) X_32.here hx (hb hby at_185) rfl rfl ?_
    obtain ⟨cl_36, Ar_36, q_36, S_36, N_36, H_36, G_36⟩ := id V_b_15
    have hi_36 : ¬ ((0 : Int32) < 0 ∨ cl_36.slots.size ≤ ((0 : Int32)).toNatClampNeg) := inb_of S_36 ⟨by decide, by decide⟩
    refine Win.go (fun _ k => X_32.laload hx (j := (0 : Int32)) (v := (.long q0)) (by rw [e_32]; exact Ar_36.1) (State.isArrayOf_alike hZ.alike Ar_36.2.1) Ar_36.2.2 hi_36 (H_36.at hi_36 rfl) (g := (mkF m 186 #[.val (.long q0), .second, .val (.long q1), .second, .val (.long q2), .second, .val (.long q3), .second, .val (.long q4), .second, .val (.long q5), .second, .val (.ref b_15), .val (.ref b_18), .val (.ref b_21), .val (.ref b_24), .val (.ref b_27), .val (.ref b_28), .val (.ref b_29), .val (.ref b_30), .val (.int r1), .val (.int (0 : Int32)), .val (.long ((q0 &&& q2) &&& q4)), .second, .val (.long ((q1 &&& q3) &&& q5)), .second, .val (.int ze), .val (.int (1 : Int32)), .unset] [(.int (0 : Int32)), (.ref b_15)])) rfl rfl (hb hby at_186) _ k) ?_
    show Win p.tables e below _ (T_32.setTop (mkF m 187 #[.val (.long q0), .second, .val (.long q1), .second, .val (.long q2), .second, .val (.long q3), .second, .val (.long q4), .second, .val (.long q5), .second, .val (.ref b_15), .val (.ref b_18), .val (.ref b_21), .val (.ref b_24), .val (.ref b_27), .val (.ref b_28), .val (.ref b_29), .val (.ref b_30), .val (.int r1), .val (.int (0 : Int32)), .val (.long ((q0 &&& q2) &&& q4)), .second, .val (.long ((q1 &&& q3) &&& q5)), .second, .val (.int ze), .val (.int (1 : Int32)), .unset] [(.long q0)]))
    clear Ar_36 q_36 S_36 N_36 H_36 G_36 hi_36
    refine s_lloadN (pc' := 188) X_32.here hx (hb hby at_187) rfl rfl ?_
    refine s_lcmp (pc' := 189) X_32.here hx (hb hby at_188) rfl ?_
    refine s_ifNo (pc' := 192) X_32.here hx (hb hby at_189) rfl (teqL (x := q0) (y := q0) (rfl)).2 ?_
    refine s_aload (pc' := 194) X_32.here hx (hb hby at_192) rfl rfl rfl ?_
    refine s_iconst (pc' := 195) (z := (1 : Int32)) X_32.here hx (hb hby at_194) rfl rfl ?_
    obtain ⟨cl_37, Ar_37, q_37, S_37, N_37, H_37, G_37⟩ := id V_b_15
    have hi_37 : ¬ ((1 : Int32) < 0 ∨ cl_37.slots.size ≤ ((1 : Int32)).toNatClampNeg) := inb_of S_37 ⟨by decide, by decide⟩
    refine Win.go (fun _ k => X_32.laload hx (j := (1 : Int32)) (v := (.long q1)) (by rw [e_32]; exact Ar_37.1) (State.isArrayOf_alike hZ.alike Ar_37.2.1) Ar_37.2.2 hi_37 (H_37.at hi_37 rfl) (g := (mkF m 195 #[.val (.long q0), .second, .val (.long q1), .second, .val (.long q2), .second, .val (.long q3), .second, .val (.long q4), .second, .val (.long q5), .second, .val (.ref b_15), .val (.ref b_18), .val (.ref b_21), .val (.ref b_24), .val (.ref b_27), .val (.ref b_28), .val (.ref b_29), .val (.ref b_30), .val (.int r1), .val (.int (0 : Int32)), .val (.long ((q0 &&& q2) &&& q4)), .second, .val (.long ((q1 &&& q3) &&& q5)), .second, .val (.int ze), .val (.int (1 : Int32)), .unset] [(.int (1 : Int32)), (.ref b_15)])) rfl rfl (hb hby at_195) _ k) ?_
    show Win p.tables e below _ (T_32.setTop (mkF m 196 #[.val (.long q0), .second, .val (.long q1), .second, .val (.long q2), .second, .val (.long q3), .second, .val (.long q4), .second, .val (.long q5), .second, .val (.ref b_15), .val (.ref b_18), .val (.ref b_21), .val (.ref b_24), .val (.ref b_27), .val (.ref b_28), .val (.ref b_29), .val (.ref b_30), .val (.int r1), .val (.int (0 : Int32)), .val (.long ((q0 &&& q2) &&& q4)), .second, .val (.long ((q1 &&& q3) &&& q5)), .second, .val (.int ze), .val (.int (1 : Int32)), .unset] [(.long q1)]))
    clear Ar_37 q_37 S_37 N_37 H_37 G_37 hi_37
    refine s_lloadN (pc' := 197) X_32.here hx (hb hby at_196) rfl rfl ?_
    refine s_lcmp (pc' := 198) X_32.here hx (hb hby at_197) rfl ?_
    refine s_ifNo (pc' := 201) X_32.here hx (hb hby at_198) rfl (teqL (x := q1) (y := q1) (rfl)).2 ?_
    refine s_aload (pc' := 203) X_32.here hx (hb hby at_201) rfl rfl rfl ?_
    refine s_iconst (pc' := 204) (z := (0 : Int32)) X_32.here hx (hb hby at_203) rfl rfl ?_
    obtain ⟨cl_38, Ar_38, q_38, S_38, N_38, H_38, G_38⟩ := id V_b_18
    have hi_38 : ¬ ((0 : Int32) < 0 ∨ cl_38.slots.size ≤ ((0 : Int32)).toNatClampNeg) := inb_of S_38 ⟨by decide, by decide⟩
    refine Win.go (fun _ k => X_32.laload hx (j := (0 : Int32)) (v := (.long q2)) (by rw [e_32]; exact Ar_38.1) (State.isArrayOf_alike hZ.alike Ar_38.2.1) Ar_38.2.2 hi_38 (H_38.at hi_38 rfl) (g := (mkF m 204 #[.val (.long q0), .second, .val (.long q1), .second, .val (.long q2), .second, .val (.long q3), .second, .val (.long q4), .second, .val (.long q5), .second, .val (.ref b_15), .val (.ref b_18), .val (.ref b_21), .val (.ref b_24), .val (.ref b_27), .val (.ref b_28), .val (.ref b_29), .val (.ref b_30), .val (.int r1), .val (.int (0 : Int32)), .val (.long ((q0 &&& q2) &&& q4)), .second, .val (.long ((q1 &&& q3) &&& q5)), .second, .val (.int ze), .val (.int (1 : Int32)), .unset] [(.int (0 : Int32)), (.ref b_18)])) rfl rfl (hb hby at_204) _ k) ?_
    show Win p.tables e below _ (T_32.setTop (mkF m 205 #[.val (.long q0), .second, .val (.long q1), .second, .val (.long q2), .second, .val (.long q3), .second, .val (.long q4), .second, .val (.long q5), .second, .val (.ref b_15), .val (.ref b_18), .val (.ref b_21), .val (.ref b_24), .val (.ref b_27), .val (.ref b_28), .val (.ref b_29), .val (.ref b_30), .val (.int r1), .val (.int (0 : Int32)), .val (.long ((q0 &&& q2) &&& q4)), .second, .val (.long ((q1 &&& q3) &&& q5)), .second, .val (.int ze), .val (.int (1 : Int32)), .unset] [(.long q2)]))
    clear Ar_38 q_38 S_38 N_38 H_38 G_38 hi_38
    refine s_lload (pc' := 207) X_32.here hx (hb hby at_205) rfl rfl ?_
    refine s_lcmp (pc' := 208) X_32.here hx (hb hby at_207) rfl ?_
    refine s_ifNo (pc' := 211) X_32.here hx (hb hby at_208) rfl (teqL (x := q2) (y := q2) (rfl)).2 ?_
    refine s_aload (pc' := 213) X_32.here hx (hb hby at_211) rfl rfl rfl ?_
    refine s_iconst (pc' := 214) (z := (1 : Int32)) X_32.here hx (hb hby at_213) rfl rfl ?_
    obtain ⟨cl_39, Ar_39, q_39, S_39, N_39, H_39, G_39⟩ := id V_b_18
    have hi_39 : ¬ ((1 : Int32) < 0 ∨ cl_39.slots.size ≤ ((1 : Int32)).toNatClampNeg) := inb_of S_39 ⟨by decide, by decide⟩
    refine Win.go (fun _ k => X_32.laload hx (j := (1 : Int32)) (v := (.long q3)) (by rw [e_32]; exact Ar_39.1) (State.isArrayOf_alike hZ.alike Ar_39.2.1) Ar_39.2.2 hi_39 (H_39.at hi_39 rfl) (g := (mkF m 214 #[.val (.long q0), .second, .val (.long q1), .second, .val (.long q2), .second, .val (.long q3), .second, .val (.long q4), .second, .val (.long q5), .second, .val (.ref b_15), .val (.ref b_18), .val (.ref b_21), .val (.ref b_24), .val (.ref b_27), .val (.ref b_28), .val (.ref b_29), .val (.ref b_30), .val (.int r1), .val (.int (0 : Int32)), .val (.long ((q0 &&& q2) &&& q4)), .second, .val (.long ((q1 &&& q3) &&& q5)), .second, .val (.int ze), .val (.int (1 : Int32)), .unset] [(.int (1 : Int32)), (.ref b_18)])) rfl rfl (hb hby at_214) _ k) ?_
    show Win p.tables e below _ (T_32.setTop (mkF m 215 #[.val (.long q0), .second, .val (.long q1), .second, .val (.long q2), .second, .val (.long q3), .second, .val (.long q4), .second, .val (.long q5), .second, .val (.ref b_15), .val (.ref b_18), .val (.ref b_21), .val (.ref b_24), .val (.ref b_27), .val (.ref b_28), .val (.ref b_29), .val (.ref b_30), .val (.int r1), .val (.int (0 : Int32)), .val (.long ((q0 &&& q2) &&& q4)), .second, .val (.long ((q1 &&& q3) &&& q5)), .second, .val (.int ze), .val (.int (1 : Int32)), .unset] [(.long q3)]))
    clear Ar_39 q_39 S_39 N_39 H_39 G_39 hi_39
    refine s_lload (pc' := 217) X_32.here hx (hb hby at_215) rfl rfl ?_
    refine s_lcmp (pc' := 218) X_32.here hx (hb hby at_217) rfl ?_
    refine s_ifNo (pc' := 221) X_32.here hx (hb hby at_218) rfl (teqL (x := q3) (y := q3) (rfl)).2 ?_
    refine s_aload (pc' := 223) X_32.here hx (hb hby at_221) rfl rfl rfl ?_
    refine s_iconst (pc' := 224) (z := (0 : Int32)) X_32.here hx (hb hby at_223) rfl rfl ?_
    obtain ⟨cl_40, Ar_40, q_40, S_40, N_40, H_40, G_40⟩ := id V_b_21
    have hi_40 : ¬ ((0 : Int32) < 0 ∨ cl_40.slots.size ≤ ((0 : Int32)).toNatClampNeg) := inb_of S_40 ⟨by decide, by decide⟩
    refine Win.go (fun _ k => X_32.laload hx (j := (0 : Int32)) (v := (.long q4)) (by rw [e_32]; exact Ar_40.1) (State.isArrayOf_alike hZ.alike Ar_40.2.1) Ar_40.2.2 hi_40 (H_40.at hi_40 rfl) (g := (mkF m 224 #[.val (.long q0), .second, .val (.long q1), .second, .val (.long q2), .second, .val (.long q3), .second, .val (.long q4), .second, .val (.long q5), .second, .val (.ref b_15), .val (.ref b_18), .val (.ref b_21), .val (.ref b_24), .val (.ref b_27), .val (.ref b_28), .val (.ref b_29), .val (.ref b_30), .val (.int r1), .val (.int (0 : Int32)), .val (.long ((q0 &&& q2) &&& q4)), .second, .val (.long ((q1 &&& q3) &&& q5)), .second, .val (.int ze), .val (.int (1 : Int32)), .unset] [(.int (0 : Int32)), (.ref b_21)])) rfl rfl (hb hby at_224) _ k) ?_
    show Win p.tables e below _ (T_32.setTop (mkF m 225 #[.val (.long q0), .second, .val (.long q1), .second, .val (.long q2), .second, .val (.long q3), .second, .val (.long q4), .second, .val (.long q5), .second, .val (.ref b_15), .val (.ref b_18), .val (.ref b_21), .val (.ref b_24), .val (.ref b_27), .val (.ref b_28), .val (.ref b_29), .val (.ref b_30), .val (.int r1), .val (.int (0 : Int32)), .val (.long ((q0 &&& q2) &&& q4)), .second, .val (.long ((q1 &&& q3) &&& q5)), .second, .val (.int ze), .val (.int (1 : Int32)), .unset] [(.long q4)]))
    clear Ar_40 q_40 S_40 N_40 H_40 G_40 hi_40
    refine s_lload (pc' := 227) X_32.here hx (hb hby at_225) rfl rfl ?_
    refine s_lcmp (pc' := 228) X_32.here hx (hb hby at_227) rfl ?_
    refine s_ifNo (pc' := 231) X_32.here hx (hb hby at_228) rfl (teqL (x := q4) (y := q4) (rfl)).2 ?_
    refine s_aload (pc' := 233) X_32.here hx (hb hby at_231) rfl rfl rfl ?_
    refine s_iconst (pc' := 234) (z := (1 : Int32)) X_32.here hx (hb hby at_233) rfl rfl ?_
    obtain ⟨cl_41, Ar_41, q_41, S_41, N_41, H_41, G_41⟩ := id V_b_21
    have hi_41 : ¬ ((1 : Int32) < 0 ∨ cl_41.slots.size ≤ ((1 : Int32)).toNatClampNeg) := inb_of S_41 ⟨by decide, by decide⟩
    refine Win.go (fun _ k => X_32.laload hx (j := (1 : Int32)) (v := (.long q5)) (by rw [e_32]; exact Ar_41.1) (State.isArrayOf_alike hZ.alike Ar_41.2.1) Ar_41.2.2 hi_41 (H_41.at hi_41 rfl) (g := (mkF m 234 #[.val (.long q0), .second, .val (.long q1), .second, .val (.long q2), .second, .val (.long q3), .second, .val (.long q4), .second, .val (.long q5), .second, .val (.ref b_15), .val (.ref b_18), .val (.ref b_21), .val (.ref b_24), .val (.ref b_27), .val (.ref b_28), .val (.ref b_29), .val (.ref b_30), .val (.int r1), .val (.int (0 : Int32)), .val (.long ((q0 &&& q2) &&& q4)), .second, .val (.long ((q1 &&& q3) &&& q5)), .second, .val (.int ze), .val (.int (1 : Int32)), .unset] [(.int (1 : Int32)), (.ref b_21)])) rfl rfl (hb hby at_234) _ k) ?_
    show Win p.tables e below _ (T_32.setTop (mkF m 235 #[.val (.long q0), .second, .val (.long q1), .second, .val (.long q2), .second, .val (.long q3), .second, .val (.long q4), .second, .val (.long q5), .second, .val (.ref b_15), .val (.ref b_18), .val (.ref b_21), .val (.ref b_24), .val (.ref b_27), .val (.ref b_28), .val (.ref b_29), .val (.ref b_30), .val (.int r1), .val (.int (0 : Int32)), .val (.long ((q0 &&& q2) &&& q4)), .second, .val (.long ((q1 &&& q3) &&& q5)), .second, .val (.int ze), .val (.int (1 : Int32)), .unset] [(.long q5)]))
    clear Ar_41 q_41 S_41 N_41 H_41 G_41 hi_41
    refine s_lload (pc' := 237) X_32.here hx (hb hby at_235) rfl rfl ?_
    refine s_lcmp (pc' := 238) X_32.here hx (hb hby at_237) rfl ?_
    refine s_ifNo (pc' := 241) X_32.here hx (hb hby at_238) rfl (teqL (x := q5) (y := q5) (rfl)).2 ?_
    refine s_iconst (pc' := 242) (z := (1 : Int32)) X_32.here hx (hb hby at_241) rfl rfl ?_
    refine s_goto (pc' := 246) X_32.here hx (hb hby at_242) (by decide) (by decide) ?_
    refine s_istore (pc' := 248) (l' := #[.val (.long q0), .second, .val (.long q1), .second, .val (.long q2), .second, .val (.long q3), .second, .val (.long q4), .second, .val (.long q5), .second, .val (.ref b_15), .val (.ref b_18), .val (.ref b_21), .val (.ref b_24), .val (.ref b_27), .val (.ref b_28), .val (.ref b_29), .val (.ref b_30), .val (.int r1), .val (.int (0 : Int32)), .val (.long ((q0 &&& q2) &&& q4)), .second, .val (.long ((q1 &&& q3) &&& q5)), .second, .val (.int ze), .val (.int (1 : Int32)), .val (.int (1 : Int32))]) X_32.here hx (hb hby at_246) rfl rfl ?_
    refine s_iload (pc' := 250) X_32.here hx (hb hby at_248) rfl rfl ?_
    refine s_iload (pc' := 252) X_32.here hx (hb hby at_250) rfl rfl ?_
    by_cases hc252 : (r1).toInt = (ze).toInt
    · skip
      refine s_icmpNo (pc' := 255) X_32.here hx (hb hby at_252) rfl (teqI (x := r1) (y := ze) hc252).2 ?_
      refine s_iload (pc' := 257) X_32.here hx (hb hby at_255) rfl rfl ?_
      refine s_ifNo (pc' := 260) X_32.here hx (hb hby at_257) rfl ((if0 _ _).trans (feqI (x := (1 : Int32)) (y := (0 : Int32)) (by decide)).1) ?_
      refine s_iload (pc' := 262) X_32.here hx (hb hby at_260) rfl rfl ?_
      refine s_ifNo (pc' := 265) X_32.here hx (hb hby at_262) rfl ((if0 _ _).trans (feqI (x := (1 : Int32)) (y := (0 : Int32)) (by decide)).1) ?_
      refine s_iload (pc' := 267) X_32.here hx (hb hby at_265) rfl rfl ?_
      refine s_ifNo (pc' := 270) X_32.here hx (hb hby at_267) rfl ((if0 _ _).trans (teqI (x := (0 : Int32)) (y := (0 : Int32)) (by decide)).2) ?_
      refine s_iconst (pc' := 271) (z := (1 : Int32)) X_32.here hx (hb hby at_270) rfl rfl ?_
      refine s_goto (pc' := 275) X_32.here hx (hb hby at_271) (by decide) (by decide) ?_
      refine winN X_32 hx hlk e_32 (t := .boolean) Bd.returns (by simp) (hb hby at_275) (by decide) (by decide) (z' := 1) rfl ⟨Nf, rfl⟩
    · skip
      refine s_icmpYes (pc' := 274) X_32.here hx (hb hby at_252) (feqI (x := r1) (y := ze) hc252).2 (by decide) (by decide) ?_
      refine s_iconst (pc' := 275) (z := (0 : Int32)) X_32.here hx (hb hby at_274) rfl rfl ?_
      exfalso
      omega
  refine s_lload (pc' := 130) X_32.here hx (hb hby at_128) rfl rfl ?_
  refine s_lconst (pc' := 131) (z := (0 : Int64)) X_32.here hx (hb hby at_130) rfl rfl ?_
  refine s_lcmp (pc' := 132) X_32.here hx (hb hby at_131) rfl ?_
  by_cases hc132 : (((q0 &&& q2) &&& q4)).toInt = (0 : Int)
  · skip
    refine s_ifNo (pc' := 135) X_32.here hx (hb hby at_132) rfl (teqL (x := ((q0 &&& q2) &&& q4)) (y := (0 : Int64)) hc132).2 ?_
    refine s_lload (pc' := 137) X_32.here hx (hb hby at_135) rfl rfl ?_
    refine s_lconst (pc' := 138) (z := (0 : Int64)) X_32.here hx (hb hby at_137) rfl rfl ?_
    refine s_lcmp (pc' := 139) X_32.here hx (hb hby at_138) rfl ?_
    by_cases hc139 : (((q1 &&& q3) &&& q5)).toInt = (0 : Int)
    · skip
      refine s_ifYes (pc' := 146) X_32.here hx (hb hby at_139) (teqL (x := ((q1 &&& q3) &&& q5)) (y := (0 : Int64)) hc139).1 (by decide) (by decide) ?_
      refine s_iconst (pc' := 147) (z := (0 : Int32)) X_32.here hx (hb hby at_146) rfl rfl ?_
      exact J147 (0 : Int32) (by exact Or.inr ⟨rfl, by omega⟩)
    · skip
      refine s_ifNo (pc' := 142) X_32.here hx (hb hby at_139) rfl (feqL (x := ((q1 &&& q3) &&& q5)) (y := (0 : Int64)) hc139).1 ?_
      refine s_iconst (pc' := 143) (z := (1 : Int32)) X_32.here hx (hb hby at_142) rfl rfl ?_
      refine s_goto (pc' := 147) X_32.here hx (hb hby at_143) (by decide) (by decide) ?_
      exact J147 (1 : Int32) (by exact Or.inl ⟨rfl, by omega⟩)
  · skip
    refine s_ifYes (pc' := 142) X_32.here hx (hb hby at_132) (feqL (x := ((q0 &&& q2) &&& q4)) (y := (0 : Int64)) hc132).2 (by decide) (by decide) ?_
    refine s_iconst (pc' := 143) (z := (1 : Int32)) X_32.here hx (hb hby at_142) rfl rfl ?_
    refine s_goto (pc' := 147) X_32.here hx (hb hby at_143) (by decide) (by decide) ?_
    exact J147 (1 : Int32) (by exact Or.inl ⟨rfl, by omega⟩)
set_option maxRecDepth 65536 in
set_option maxHeartbeats 40000000 in
theorem comes_1 {Post : Tables → Env → Array Value → State → Outcome → State → Prop} (hpost : ∀ tb e args s v u, (limb_1_1.after args s (.returned v) u = true ∧ limb_1_2.after args s (.returned v) u = true ∧ True) → FrameEnd s (.returned v) u (Jvm.fieldLocs frame_1_writes args s ++ Jvm.arrayLocs frame_1_arrays args s ++ Jvm.staticLocs frame_1_statics s) 24 128 → Post tb e args s (.returned v) u) :
    ArmFor flags0 classFile x code maxLocals ret World_1 tables_1 room_1 Calls_1 rest_1 Pre_1 Post := by
  intro l hfl _ _ p e ha hc hk s m args below hf hA hF happ hP
  obtain ⟨hcalls, hrest, hpre⟩ := hP
  obtain ⟨-, -, -, hnamed, -, -, -, hat⟩ := (Spec.applies_iff hf).mp happ
  obtain ⟨hg, hn⟩ := and_e (Cond.before_iff.mp (show (Jvm.Cond.and given_1 narrow_1).before args s = true from hpre))
  obtain ⟨g1, g2⟩ := and_e hg
  obtain ⟨g3, g4⟩ := and_e g2
  obtain ⟨g5, g6⟩ := and_e g4
  obtain ⟨g7, g8⟩ := and_e g6
  obtain ⟨g9, g10⟩ := and_e g8
  obtain ⟨g11, g12⟩ := and_e g10
  obtain ⟨w0, w1, w2, w3, w4, w5, rfl⟩ : ∃ w0 w1 w2 w3 w4 w5 : Value, args = #[w0, w1, w2, w3, w4, w5] := by
    have hs : args.size = 6 := by simpa [Cond.value, given_1] using g1
    obtain ⟨L⟩ := args
    match L, hs with
    | [w0, w1, w2, w3, w4, w5], _ => exact ⟨w0, w1, w2, w3, w4, w5, rfl⟩
  have hw := fun d (hd : d ∈ tables_1) => atoms_spec (ws := Jvm.Cond.code x code maxLocals ret :: tables_1) hat d (List.mem_cons_of_mem _ hd)
  have hfit : Fit s := fun {y c} hc i hi => by
    obtain ⟨ha, rfl⟩ := Array.getElem?_eq_some_iff.mp hc
    have q := List.all_eq_true.mp ((Array.all_eq_true_iff_forall_mem.mp hF) _ (Array.getElem_mem ha)) i (List.mem_range.mpr hi)
    simpa [Array.getElem?_eq_getElem hi] using q
  obtain ⟨i0, ei0⟩ := isL_v g3
  obtain rfl : w0 = (.long i0) := Option.some.inj ei0
  obtain ⟨i1, ei1⟩ := isL_v g5
  obtain rfl : w1 = (.long i1) := Option.some.inj ei1
  obtain ⟨i2, ei2⟩ := isL_v g7
  obtain rfl : w2 = (.long i2) := Option.some.inj ei2
  obtain ⟨i3, ei3⟩ := isL_v g9
  obtain rfl : w3 = (.long i3) := Option.some.inj ei3
  obtain ⟨i4, ei4⟩ := isL_v g11
  obtain rfl : w4 = (.long i4) := Option.some.inj ei4
  obtain ⟨i5, ei5⟩ := isL_v g12
  obtain rfl : w5 = (.long i5) := Option.some.inj ei5
  obtain ⟨n, o, h1, h2, h3, _, L, rfl, ⟨N, rfl⟩, hq⟩ := rm0 l s _ hw tables_1 i0 i1 i2 i3 i4 i5 s.heap s.heap.size (Nat.le_refl _) p e ha hc hk s m _ below hf ((Spec.applies_iff_loose hf).mp happ).1 ⟨rfl, State.Warmed39.refl s, rfl⟩ trivial
  refine ⟨n, _, h1, h2, h3, hpost _ _ _ _ _ _ ⟨Cond.after_iff.mpr rfl, Cond.after_iff.mpr (eq_i res_at (Term.int_eval (1)) rfl), trivial⟩ ⟨hq.1, hq.2.1, (hq.2.2.sift fun y hy => Or.inr (N y hy)).mono (by decide) (by decide)⟩⟩
theorem main_1_1 : Claimed_1_1 := comes_1 fun _ _ _ _ _ _ h hF => ⟨h.1, hF⟩
theorem main_1_2 : Claimed_1_2 := comes_1 fun _ _ _ _ _ _ h hF => ⟨h.2.1, hF⟩
end Jvm.Pilot.@@N@@
namespace Jvm.Pilot.@@N@@
open Jvm Jvm.ClassFile Sem Op Lib Jvm.Free Jvm.Stand Jvm.Pilot.@@N@@.Jvm.D
/-! MADE BY PROGRAM (witnessworld.py) out of the Statement's table words and the real class files: 11 classes; the members and pool entries that the words name. The judged class is class 1, her method 1. -/
namespace start1
open Jvm.ClassFile
def u (s : String) : CpInfo := .utf8 (stringToUtf16 s)
/-- a pool by its gaps: so many unusable entries, then the entry; so many at the end -/
def gap : Nat → List CpInfo → List CpInfo
  | 0, r => r
  | n + 1, r => .unusable :: gap n r
def poolList (es : List (Nat × CpInfo)) (last : Nat) : List CpInfo := es.foldr (fun e r => gap e.1 (e.2 :: r)) (gap last [])
def pool (es : List (Nat × CpInfo)) (last : Nat) : Array CpInfo := ⟨poolList es last⟩
def fileOf (pool : Array CpInfo) (this : Nat) (attrs : Array Attribute := #[]) (ms : Array MethodInfo := #[]) (fl : Nat := 33) (sup : Nat := 0) (ifs : Array Nat := #[]) (fds : Array FieldInfo := #[]) : ClassFile where
  minorVersion := 0
  majorVersion := 65
  constantPool := pool
  accessFlags := fl
  thisClass := this
  superClass := sup
  interfaces := ifs
  fields := fds
  methods := ms
  attributes := attrs
def plain (name : String) (sup : Option ClassId) : Class where
  name := name
  kind := .ordinary
  loader := none
  accessFlags := 33
  super := sup
  interfaces := #[]
  cf := none
  fields := #[]
  methods := #[]
  instanceTypes := #[]
  staticTypes := #[]
  resolved := #[]
  callSites := []
  init := .initialized
  statics := none
  mirror := none

def pool0 : Array CpInfo := pool [(5, u "<init>"), (0, u "()V"), (1, .class_ 10), (1, u "java/lang/Object")] 113

def k0m0 : Method := { name := "<init>", desc := "()V", sig := { parameters := [], returnType := none }, accessFlags := 1, code := none }
/-- java/lang/Object -/
def k0 : Class := { plain "java/lang/Object" none with
  accessFlags := 33
  interfaces := #[]
  cf := some (fileOf pool0 8 #[] #[{ accessFlags := 1, nameIndex := 5, descriptorIndex := 6, attributes := #[] }] 33 0 #[] #[])
  fields := #[]
  methods := #[k0m0]
  instanceTypes := #[]
  staticTypes := #[]
  resolved := Array.replicate 124 none
  statics := none }

def pool1 : Array CpInfo := pool [(2, .class_ 4), (1, u "java/lang/Object"), (0, u "<init>"), (0, u "()V"), (0, .long 18446744073709551615), (1, .methodref 10 11), (0, .class_ 12), (0, .nameAndType 13 14), (0, u "com/example/faithful_deputy/faithfuldeputy/Bits"), (0, u "intersection"), (0, u "([J[J[J[J)Z"), (0, .class_ 16), (0, u "com/example/faithful_deputy/faithfuldeputy/BitsIntersectionPinLaw"), (2, u "law"), (0, u "(JJJJJJ)Z")] 5

def k1m0 : Method := { name := "<init>", desc := "()V", sig := { parameters := [], returnType := none }, accessFlags := 2, code := none }
def k1c1 : Code := { maxStack := 7, maxLocals := 29, code := code, exceptionTable := #[], attributes := #[] }
def k1m1 : Method := { name := "law", desc := "(JJJJJJ)Z", sig := { parameters := [.long, .long, .long, .long, .long, .long], returnType := some .boolean }, accessFlags := 9, code := some k1c1 }
/-- com/example/faithful_deputy/faithfuldeputy/BitsIntersectionPinLaw -/
def k1 : Class := { plain "com/example/faithful_deputy/faithfuldeputy/BitsIntersectionPinLaw" (some 0) with
  accessFlags := 49
  interfaces := #[]
  cf := some (fileOf pool1 15 #[] #[{ accessFlags := 2, nameIndex := 5, descriptorIndex := 6, attributes := #[] }, { accessFlags := 9, nameIndex := 19, descriptorIndex := 20, attributes := #[] }] 49 2 #[] #[])
  fields := #[]
  methods := #[k1m0, k1m1]
  instanceTypes := #[]
  staticTypes := #[]
  resolved := Array.replicate 26 none
  statics := none }

def pool2 : Array CpInfo := pool [(4, .class_ 6), (1, u "java/lang/Object"), (0, u "<init>"), (0, u "()V"), (0, .class_ 10), (0, u "com/example/faithful_deputy/faithfuldeputy/Bits"), (13, u "WORD"), (0, u "I"), (15, u "intersection"), (0, u "([J[J[J[J)Z")] 14

def k2m0 : Method := { name := "<init>", desc := "()V", sig := { parameters := [], returnType := none }, accessFlags := 2, code := none }
def k2c1 : Code := { maxStack := 6, maxLocals := 7, code := prog_2_method_9_code, exceptionTable := #[], attributes := #[] }
def k2m1 : Method := { name := "intersection", desc := "([J[J[J[J)Z", sig := { parameters := [(.array .long), (.array .long), (.array .long), (.array .long)], returnType := some .boolean }, accessFlags := 8, code := some k2c1 }
/-- com/example/faithful_deputy/faithfuldeputy/Bits -/
def k2 : Class := { plain "com/example/faithful_deputy/faithfuldeputy/Bits" (some 0) with
  accessFlags := 48
  interfaces := #[]
  cf := some (fileOf pool2 9 #[] #[{ accessFlags := 2, nameIndex := 7, descriptorIndex := 8, attributes := #[] }, { accessFlags := 8, nameIndex := 41, descriptorIndex := 42, attributes := #[] }] 48 4 #[] #[{ accessFlags := 24, nameIndex := 24, descriptorIndex := 25, attributes := #[] }])
  fields := #[{ name := "WORD", type := .int, accessFlags := 24, slot := 0, constantValue := 0 }]
  methods := #[k2m0, k2m1]
  instanceTypes := #[]
  staticTypes := #[.int]
  resolved := Array.replicate 57 none
  statics := none }

def pool3 : Array CpInfo := pool [(1, u "java/lang/Cloneable"), (0, .class_ 1), (0, u "java/lang/Object"), (0, .class_ 3)] 3

/-- java/lang/Cloneable -/
def k3 : Class := { plain "java/lang/Cloneable" (some 0) with
  accessFlags := 1537
  interfaces := #[]
  cf := some (fileOf pool3 2 #[] #[] 1537 4 #[] #[])
  fields := #[]
  methods := #[]
  instanceTypes := #[]
  staticTypes := #[]
  resolved := Array.replicate 8 none
  statics := none }

def pool4 : Array CpInfo := pool [(1, u "java/io/Serializable"), (0, .class_ 1), (0, u "java/lang/Object"), (0, .class_ 3)] 3

/-- java/io/Serializable -/
def k4 : Class := { plain "java/io/Serializable" (some 0) with
  accessFlags := 1537
  interfaces := #[]
  cf := some (fileOf pool4 2 #[] #[] 1537 4 #[] #[])
  fields := #[]
  methods := #[]
  instanceTypes := #[]
  staticTypes := #[]
  resolved := Array.replicate 8 none
  statics := none }

/-- the primitive byte -/
def k5 : Class := { plain "byte" none with kind := .primitive 'B', accessFlags := 0x411 }
/-- [B -/
def k6 : Class := { plain "[B" (some 0) with kind := .array 5 .byte, interfaces := #[3, 4], accessFlags := 1041 }

/-- the primitive int -/
def k7 : Class := { plain "int" none with kind := .primitive 'I', accessFlags := 0x411 }
/-- [I -/
def k8 : Class := { plain "[I" (some 0) with kind := .array 7 .int, interfaces := #[3, 4], accessFlags := 1041 }

/-- the primitive long -/
def k9 : Class := { plain "long" none with kind := .primitive 'J', accessFlags := 0x411 }
/-- [J -/
def k10 : Class := { plain "[J" (some 0) with kind := .array 9 .long, interfaces := #[3, 4], accessFlags := 1041 }

def heap : Heap := #[]
def classes : Array Class := #[k0, k1, k2, k3, k4, k5, k6, k7, k8, k9, k10]
def interned : List (Array UInt16 × Addr) := []
def slotsUsed : Nat := 0
def theMethod : MethodId := ⟨1, 1⟩
def args0 : Array Value := #[.long 5, .long 5, .long 5, .long 5, .long 5, .long 5]
def aboutOver (below : List Frame) : State where
  vm := { classes := classes, interned := interned.toArray }
  heap := heap
  slotsUsed := slotsUsed
  threads := #[{ frames := .invoking theMethod args0 :: below }]
def below0 : List Frame := [.native { method := ⟨0, 0⟩, args := #[] }]
def about1 : State := aboutOver below0
def p0 : Program := .bare "" "" ""
def e0 : Env := launch0.env 0 0 0
theorem w_frames : about1.frames = Frame.invoking theMethod args0 :: below0 := rfl
set_option maxRecDepth 65536 in
theorem w_args : argsFit about1.vm theMethod args0 = true := by decide +kernel
set_option maxRecDepth 65536 in
theorem w_heap : heapFits about1 = true := by decide +kernel
set_option maxRecDepth 65536 in
theorem w_runnable : about1.curStatus? = some .runnable := by decide +kernel
set_option maxRecDepth 65536 in
theorem w_alone : about1.alone = true := by decide +kernel
set_option maxRecDepth 65536 in
theorem w_named : about1.methodNamed? x = some theMethod := by decide +kernel
set_option maxRecDepth 65536 in
theorem w_hears : about1.hears theMethod below0 = true := by decide +kernel
set_option maxRecDepth 65536 in
theorem w_ripe : about1.ripe theMethod args0 below0 = true := by decide +kernel
theorem w_running : about1.status = .running := rfl
set_option maxRecDepth 65536 in
theorem w_room : about1.hasRoom e0.platform room_1 = true :=
  launch0.hasRoom_least _ room_1 (by decide +kernel) (by decide +kernel) (by decide +kernel) (by decide +kernel) (by decide +kernel) (by decide +kernel)
theorem allAtoms_all (ts : List Jvm.Cond) (a : Array Jvm.Value) (st : Jvm.State) : (allAtoms ts).before a st = ts.all (fun c => c.before a st) := by
  induction ts with
  | nil => rfl
  | cons c t ih =>
    show (Jvm.Cond.and c (allAtoms t)).before a st = _
    rw [Jvm.Cond.before_and, ih, List.all_cons]
def words1 : List Jvm.Cond := Jvm.Cond.code x code maxLocals ret :: tables_1
/-- a 'code' word, met by the world's own term for the bytes: nothing is compared byte by byte -/
theorem code_word {y : MethodName} {bytes : ByteArray} {mx : Nat} {rt : Option FieldType} {a : Array Value} {s : State} {m : MethodId} {meth : Method} {c : Code} (h1 : s.methodNamed? y = some m) (h2 : s.vm.method? m = some meth) (h3 : meth.code = some c) (h4 : c.code = bytes)
    (h5 : (c.maxLocals == mx && c.exceptionTable.isEmpty && decide (c.maxStack ≤ mostOperands) && decide (meth.sig.returnType = rt) && !meth.locks && decide (parseMethodDescriptor y.desc = some meth.sig)) = true) : (Jvm.Cond.code y bytes mx rt).before a s = true := by
  simp only [Bool.and_eq_true, beq_iff_eq, Bool.not_eq_true', decide_eq_true_eq] at h5
  obtain ⟨⟨⟨⟨⟨g1, g2⟩, g3⟩, g4⟩, g5⟩, g6⟩ := h5
  simp [Cond.before, Cond.holds, Cond.value, h1, h2, h3, h4, g1, g2, g3, g4, g5, g6]
def isCode : Jvm.Cond → Bool
  | .code _ _ _ _ => true
  | _ => false
theorem all_split {L : List Jvm.Cond} {P : Jvm.Cond → Bool} (h1 : L.all (fun c => isCode c || P c) = true) (h2 : ∀ c ∈ L.filter isCode, P c = true) : L.all P = true := by
  refine List.all_eq_true.mpr fun c hc => ?_
  have h := List.all_eq_true.mp h1 c hc
  rcases Bool.eq_false_or_eq_true (isCode c) with hi | hi
  · exact h2 c (List.mem_filter.mpr ⟨hc, hi⟩)
  · simpa [hi] using h
set_option maxRecDepth 65536 in
theorem w_c0 : (Jvm.Cond.code x code maxLocals ret).before args0 about1 = true := code_word (m := ⟨1, 1⟩) (meth := k1m1) (c := k1c1) (by decide +kernel) rfl rfl rfl (by decide +kernel)
set_option maxRecDepth 65536 in
theorem w_c1 : (Jvm.Cond.code ({ cls := "com/example/faithful_deputy/faithfuldeputy/Bits", name := "intersection", desc := "([J[J[J[J)Z" } : Jvm.MethodName) prog_2_method_9_code (7 : Nat) (Option.some Jvm.ClassFile.FieldType.boolean)).before args0 about1 = true := code_word (m := ⟨2, 1⟩) (meth := k2m1) (c := k2c1) (by decide +kernel) rfl rfl rfl (by decide +kernel)
def codes1 : List Jvm.Cond := [Jvm.Cond.code x code maxLocals ret, Jvm.Cond.code ({ cls := "com/example/faithful_deputy/faithfuldeputy/Bits", name := "intersection", desc := "([J[J[J[J)Z" } : Jvm.MethodName) prog_2_method_9_code (7 : Nat) (Option.some Jvm.ClassFile.FieldType.boolean)]
set_option maxRecDepth 65536 in
theorem codes_eq : words1.filter isCode = codes1 := rfl
theorem w_codes : ∀ c ∈ words1.filter isCode, c.before args0 about1 = true := by
  rw [codes_eq]
  intro c hc
  simp only [codes1, List.mem_cons, List.not_mem_nil, or_false] at hc
  rcases hc with rfl | rfl
  · exact w_c0
  · exact w_c1
set_option maxRecDepth 65536 in
theorem w_t1 : words1.all (fun c => isCode c || c.before args0 about1) = true := by decide +kernel
theorem w_tables : (allAtoms (Jvm.Cond.code x code maxLocals ret :: tables_1)).before args0 about1 = true := by
  rw [allAtoms_all]
  show words1.all (fun c => c.before args0 about1) = true
  refine all_split ?_ w_codes
  rw [w_t1]
set_option maxRecDepth 65536 in
theorem w_case : (Jvm.Cond.and given_1 narrow_1).before args0 about1 = true := by decide +kernel
theorem w_applies : (headSpec (Jvm.Cond.code x code maxLocals ret :: tables_1) room_1).applies x e0.platform about1 = true :=
  (Spec.applies_iff w_frames).mpr ⟨w_running, w_runnable, w_alone, w_named, w_hears, w_ripe, w_room, w_tables⟩
theorem atStart : AtStart classFile x code maxLocals ret World_1 tables_1 room_1 Calls_1 rest_1 Pre_1 launch0 p0 e0 about1 theMethod args0 below0 :=
  ⟨lists_1, trivial, launch0.admits_env _ _ _, launch0.least_env, fairChoices_fair.cas, fairChoices_fair.clock, w_frames, w_args, w_heap, w_applies, trivial, trivial, w_case⟩
end start1
theorem witness_1 : WitnessClaimed_1 := ⟨start1.p0, start1.e0, start1.about1, start1.theMethod, start1.args0, start1.below0, start1.atStart⟩
end Jvm.Pilot.@@N@@
