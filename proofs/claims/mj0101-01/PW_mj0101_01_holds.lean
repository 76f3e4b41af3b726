import PyProof.Rows.All
import Wide.All
import OpenK.AllK
import Wide.FinOn
import PySem.Challenge.RW_mj0101_01
open PySem PySem.W PyProof.Rows
set_option Elab.async false
set_option linter.unusedVariables false
set_option maxRecDepth 100000

-- part HD
namespace Mine
set_option maxHeartbeats 8000000 in
open_top hd for PySem.Challenge.rw_mj0101_01
end Mine

-- part FL
namespace Mine
noncomputable section

/-- an eighth -/
def fx (n : Int) : UInt64 := Float64.ofFrac (decide (n < 0) != decide ((8 : Int) < 0)) n.natAbs (8 : Int).natAbs
/-- one less an eighth -/
def fy (n : Int) : UInt64 := Float64.sub (Float64.ofInt 1) (fx n)
def fgt (a b : UInt64) : Bool := Float64.cmp a b == some Ordering.gt
def flt (a b : UInt64) : Bool := Float64.cmp a b == some Ordering.lt
def feq (a b : UInt64) : Bool := Float64.cmp a b == some Ordering.eq
def fle (a b : UInt64) : Bool := Float64.cmp a b == some Ordering.lt || Float64.cmp a b == some Ordering.eq
def fmax3 (a b c : UInt64) : UInt64 := if fgt b a then (if fgt c b then c else b) else (if fgt c a then c else a)
def fmin3 (a b c : UInt64) : UInt64 := if flt b a then (if flt c b then c else b) else (if flt c a then c else a)
def f0 : UInt64 := 0
def fin (h : UInt64) : UInt64 := (Float64.divmod (Float64.div h 4618441417868443648) 4607182418800017408).2
/-- the hue, behind the grey's test -/
def hueOf (r g b mx rg : UInt64) : UInt64 :=
  let rc := Float64.div (Float64.sub mx r) rg
  let gc := Float64.div (Float64.sub mx g) rg
  let bc := Float64.div (Float64.sub mx b) rg
  if feq r mx then fin (Float64.sub bc gc)
  else if feq g mx then fin (Float64.sub (Float64.add 4611686018427387904 rc) bc)
  else fin (Float64.sub (Float64.add 4616189618054758400 gc) rc)
def hsvH (r g b : UInt64) : UInt64 :=
  let mx := fmax3 r g b
  let mn := fmin3 r g b
  if feq mn mx then f0 else hueOf r g b mx (Float64.sub mx mn)
/-- what is divided by is not nought, where it is divided -/
def hsvOk (r g b : UInt64) : Bool :=
  let mx := fmax3 r g b
  let mn := fmin3 r g b
  feq mn mx || (!Float64.isZero mx && !Float64.isZero (Float64.sub mx mn))
def hlsOk (r g b : UInt64) : Bool :=
  let mx := fmax3 r g b
  let mn := fmin3 r g b
  feq mn mx || (!Float64.isZero (Float64.sub mx mn) && (if fle (Float64.div (Float64.add mx mn) 4611686018427387904) 4602678819172646912 then !Float64.isZero (Float64.add mx mn)
     else !Float64.isZero (Float64.sub (Float64.sub 4611686018427387904 mx) mn)))

def ringStep (full : Int) (k : Int) (h : List Int) : List Int :=
  let turn := k / full
  let i := ([1, 0, 2, 1, 0, 2] : List Nat).getD turn.toNat 0
  h.set i (h.getD i 0 + (1 - turn % 2 * 2))
noncomputable def ring (full : Int) : Nat → List Int
  | 0 => [full, 0, 0]
  | k + 1 => ringStep full k (ring full k)
noncomputable def seek (full : Int) (aim : List Int) : Nat → Nat → List Int → Nat
  | 0, k, _ => k
  | f + 1, k, h => if h == aim then k else seek full aim f (k + 1) (ringStep full k h)
def least3 (r g b : Int) : Int := min (min r g) b
def most3 (r g b : Int) : Int := max (max r g) b
def full3 (r g b : Int) : Int := most3 r g b - least3 r g b
def aim3 (r g b : Int) : List Int := [r - least3 r g b, g - least3 r g b, b - least3 r g b]
def steps3 (r g b : Int) : Nat := seek (full3 r g b) (aim3 r g b) 45 0 [full3 r g b, 0, 0]
def place (r g b : Int) : Int := (steps3 r g b : Int) * 420 / max (full3 r g b) 1
def turned (r g b : Int) : Int := if least3 r g b < most3 r g b then (place r g b + 1260) % 2520 else 0

def d8 : List Int := [0, 1, 2, 3, 4, 5, 6, 7]
def red (n : Int) : Int := n % 8
def green (n : Int) : Int := n / 8 % 8
def blue (n : Int) : Int := n / 64 % 8

def hueTab : List (Int × UInt64) := [(0, 0), (60, 4582519849412036123), (70, 4583663620745971483), (84, 4584964660638322960), (105, 4586165620538955093), (120, 4587023449039406616), (140, 4588167220373341981), (168, 4589468260265693457), (180, 4589811391665874067), (210, 4590669220166325589), (240, 4591527048666777112), (252, 4591870180066957721), (280, 4592670820000712477), (300, 4593242705667680159), (315, 4593671619917905920), (336, 4593971859893063953), (350, 4594172019876502642), (360, 4594314991293244563), (420, 4595172819793696085), (480, 4596030648294147608), (490, 4596173619710889528), (504, 4596373779694328219), (525, 4596674019669486251), (540, 4596888476794599131), (560, 4597174419628082973), (588, 4597574739594960349), (600, 4597746305295050653), (630, 4598175219545276416), (660, 4598389676670389296), (672, 4598475459520434449), (700, 4598675619503873137), (720, 4598818590920615059), (735, 4598925819483171499), (756, 4599075939470750515), (770, 4599176019462469860), (780, 4599247505170840820), (840, 4599676419421066581), (900, 4600105333671292343), (910, 4600176819379663303), (924, 4600276899371382648), (945, 4600427019358961664), (960, 4600534247921518104), (980, 4600677219338260025), (1008, 4600877379321698713), (1020, 4600963162171743867), (1050, 4601177619296856747), (1080, 4601392076421969628), (1092, 4601477859272014780), (1120, 4601678019255453468), (1140, 4601820990672195389), (1155, 4601928219234751829), (1176, 4602078339222330845), (1190, 4602178419214050191), (1200, 4602249904922421151), (1260, 4602678819172646912), (1320, 4602893276297759793), (1330, 4602929019151945273), (1344, 4602979059147804945), (1365, 4603054119141594453), (1380, 4603107733422872673), (1400, 4603179219131243633), (1428, 4603279299122962979), (1440, 4603322190547985555), (1470, 4603429419110541995), (1500, 4603536647673098435), (1512, 4603579539098121011), (1540, 4603679619089840356), (1560, 4603751104798211316), (1575, 4603804719079489536), (1596, 4603879779073279044), (1610, 4603929819069138716), (1620, 4603965561923324196), (1680, 4604180019048437077), (1740, 4604394476173549959), (1750, 4604430219027735439), (1764, 4604480259023595111), (1785, 4604555319017384619), (1800, 4604608933298662839), (1820, 4604680419007033799), (1848, 4604780498998753144), (1860, 4604823390423775720), (1890, 4604930618986332160), (1920, 4605037847548888600), (1932, 4605080738973911176), (1960, 4605180818965630521), (1980, 4605252304674001481), (1995, 4605305918955279701), (2016, 4605380978949069209), (2030, 4605431018944928881), (2040, 4605466761799114361), (2100, 4605681218924227243), (2160, 4605895676049340123), (2170, 4605931418903525604), (2184, 4605981458899385276), (2205, 4606056518893174784), (2220, 4606110133174453004), (2240, 4606181618882823964), (2268, 4606281698874543309), (2280, 4606324590299565885), (2310, 4606431818862122325), (2340, 4606539047424678766), (2352, 4606581938849701342), (2380, 4606682018841420686), (2400, 4606753504549791646), (2415, 4606807118831069867), (2436, 4606882178824859375), (2450, 4606932218820719047), (2460, 4606967961674904527)]

def F (p : Int) : UInt64 := (hueTab.lookup p).getD 0
def ps : List Int := hueTab.map (·.1)
def isPlace (p : Int) : Bool := ps.contains p
end
end Mine

-- part W1
namespace Mine

def Up (h h' : Heap) : Prop := ∀ b o, h.get? b = some o → h'.get? b = some o
theorem Up.refl (h : Heap) : Up h h := fun _ _ e => e
theorem Up.trans {a b c : Heap} (x : Up a b) (y : Up b c) : Up a c := fun d o e => y d o (x d o e)

section
variable {prog : Program} {w : World} {A : Around} {E : Value → Shared → Prop} {s : Shared}

theorem gt_rich {a b : UInt64} {t u : Tok} {Q : Value → Shared → Prop} (h : Q (.bool (fgt a b)) s) :
    wpAny (model prog w) A (richCompare .Gt (.float a t) (.float b u)) Q E s :=
  richCompare_gives (op := .Gt) (typeIs_float s a t) (typeIs_float s b u) F.slot_float_gt F.entry_float_gt (F.args_float_gt_2 _ _) (AutoFloatG4.float___gt___float_float_0 a t b u) (fun x => nomatch x) h
theorem lt_rich {a b : UInt64} {t u : Tok} {Q : Value → Shared → Prop} (h : Q (.bool (flt a b)) s) :
    wpAny (model prog w) A (richCompare .Lt (.float a t) (.float b u)) Q E s :=
  richCompare_gives (op := .Lt) (typeIs_float s a t) (typeIs_float s b u) F.slot_float_lt F.entry_float_lt (F.args_float_lt_2 _ _) (AutoFloatG5.float___lt___float_float_0 a t b u) (fun x => nomatch x) h

def three (a b c : UInt64) (t u x : Tok) : Array Value := #[.float a t, .float b u, .float c x]
def threeAt (a b c : UInt64) (i : Nat) : UInt64 := match i with | 0 => a | 1 => b | _ => c
theorem three_at {a b c : UInt64} {t u x : Tok} {i : Nat} {v : Value} (h : (three a b c t u x)[i]? = some v) : ∃ t', v = .float (threeAt a b c i) t' := by
  match i, h with
  | 0, h => exact ⟨t, by simpa [three, threeAt, eq_comm] using h⟩
  | 1, h => exact ⟨u, by simpa [three, threeAt, eq_comm] using h⟩
  | 2, h => exact ⟨x, by simpa [three, threeAt, eq_comm] using h⟩
  | n + 3, h => simp [three] at h

theorem best3 (bt : Nat → Nat → Bool) : argBest bt 2 = if bt 1 0 then (if bt 2 1 then 2 else 1) else (if bt 2 0 then 2 else 0) := by
  cases h1 : bt 1 0 <;> cases h2 : bt 2 1 <;> cases h3 : bt 2 0 <;> simp [argBest, h1, h2, h3]

theorem max3f {a b c : UInt64} {t u x : Tok} {Q : Value → Shared → Prop} (hh : A.handled = none)
    (h : ∀ h' tk t', Up s.heap h' → Q (.float (fmax3 a b c) t') { s with heap := h', toks := tk }) :
    wpAny (model prog w) A (call (.builtin "max") [.float a t, .float b u, .float c x]) Q E s := by
  have hT : (s.heap.push { cls := .type "tuple", data := .seq #[.float a t, .float b u, .float c x] }).IsTuple s.heap.objs.size (three a b c t u x) := ⟨_, Heap.get?_push_size _ rfl, rfl, 0, by simp [three]⟩
  refine call_max_three (wpAny_pyIter_tuple hT ?_)
  have hsz : (s.heap.push { cls := .type "tuple", data := .seq #[.float a t, .float b u, .float c x] }).objs.size = s.heap.objs.size + 1 := Heap.size_push ..
  refine ⟨_, [_, s.heap.objs.size], [_], _, _, _, (fun i j => fgt (threeAt a b c i) (threeAt a b c j)), rfl, Walks.tuple (A := A.in1) hh _ s.heap.objs.size (by rw [hsz]; exact Nat.ne_of_lt (Nat.lt_succ_self _)) (three a b c t u x),
    ⟨⟨_, Heap.get?_push_size _ rfl, rfl, rfl⟩, hT.push _⟩, fun d hd => ?_, by simp [three], fun i j vi vj s Q E hi hj h => ?_, fun v h' tk hP hk => ?_⟩
  · show d < ((s.heap.push _).push _).objs.size
    rw [Heap.size_push, hsz]
    rcases List.mem_cons.mp hd with rfl | hd
    · rw [hsz]; exact Nat.lt_succ_self _
    · rcases List.mem_cons.mp hd with rfl | hd
      · exact Nat.lt_succ_of_lt (Nat.lt_succ_self _)
      · cases hd
  · obtain ⟨t, rfl⟩ := three_at hi
    obtain ⟨u, rfl⟩ := three_at hj
    exact gt_rich h
  · have hold : Up s.heap h' := fun d o e => by
      refine hk d o (fun hm => ?_) (Heap.get?_push_of_some _ (Heap.get?_push_of_some _ e))
      rcases List.mem_cons.mp hm with e1 | hm
      · have := Heap.lt_size e; rw [e1, hsz] at this; exact Nat.lt_irrefl _ (Nat.lt_of_succ_lt this)
      · cases hm
    have hP' : (three a b c t u x)[argBest (fun i j => fgt (threeAt a b c i) (threeAt a b c j)) 2]? = some v := hP
    obtain ⟨t', rfl⟩ := three_at hP'
    have e : threeAt a b c (argBest (fun i j => fgt (threeAt a b c i) (threeAt a b c j)) 2) = fmax3 a b c := by
      rw [best3]; simp only [threeAt, fmax3]
      cases fgt b a <;> cases fgt c b <;> cases fgt c a <;> rfl
    rw [e]; exact h h' tk t' hold

theorem min3f {a b c : UInt64} {t u x : Tok} {Q : Value → Shared → Prop} (hh : A.handled = none)
    (h : ∀ h' tk t', Up s.heap h' → Q (.float (fmin3 a b c) t') { s with heap := h', toks := tk }) :
    wpAny (model prog w) A (call (.builtin "min") [.float a t, .float b u, .float c x]) Q E s := by
  have hT : (s.heap.push { cls := .type "tuple", data := .seq #[.float a t, .float b u, .float c x] }).IsTuple s.heap.objs.size (three a b c t u x) := ⟨_, Heap.get?_push_size _ rfl, rfl, 0, by simp [three]⟩
  refine call_min_three (wpAny_pyIter_tuple hT ?_)
  have hsz : (s.heap.push { cls := .type "tuple", data := .seq #[.float a t, .float b u, .float c x] }).objs.size = s.heap.objs.size + 1 := Heap.size_push ..
  refine ⟨_, [_, s.heap.objs.size], [_], _, _, _, (fun i j => flt (threeAt a b c i) (threeAt a b c j)), rfl, Walks.tuple (A := A.in1) hh _ s.heap.objs.size (by rw [hsz]; exact Nat.ne_of_lt (Nat.lt_succ_self _)) (three a b c t u x),
    ⟨⟨_, Heap.get?_push_size _ rfl, rfl, rfl⟩, hT.push _⟩, fun d hd => ?_, by simp [three], fun i j vi vj s Q E hi hj h => ?_, fun v h' tk hP hk => ?_⟩
  · show d < ((s.heap.push _).push _).objs.size
    rw [Heap.size_push, hsz]
    rcases List.mem_cons.mp hd with rfl | hd
    · rw [hsz]; exact Nat.lt_succ_self _
    · rcases List.mem_cons.mp hd with rfl | hd
      · exact Nat.lt_succ_of_lt (Nat.lt_succ_self _)
      · cases hd
  · obtain ⟨t, rfl⟩ := three_at hi
    obtain ⟨u, rfl⟩ := three_at hj
    exact lt_rich h
  · have hold : Up s.heap h' := fun d o e => by
      refine hk d o (fun hm => ?_) (Heap.get?_push_of_some _ (Heap.get?_push_of_some _ e))
      rcases List.mem_cons.mp hm with e1 | hm
      · have := Heap.lt_size e; rw [e1, hsz] at this; exact Nat.lt_irrefl _ (Nat.lt_of_succ_lt this)
      · cases hm
    have hP' : (three a b c t u x)[argBest (fun i j => flt (threeAt a b c i) (threeAt a b c j)) 2]? = some v := hP
    obtain ⟨t', rfl⟩ := three_at hP'
    have e : threeAt a b c (argBest (fun i j => flt (threeAt a b c i) (threeAt a b c j)) 2) = fmin3 a b c := by
      rw [best3]; simp only [threeAt, fmin3]
      cases flt b a <;> cases flt c b <;> cases flt c a <;> rfl
    rw [e]; exact h h' tk t' hold
end
end Mine

-- part W2
namespace Mine
noncomputable section

def nth (l : List Stmt) (i : Nat) : Stmt := l.getD i (.Pass ⟨0, 0, 0, 0⟩)
def pst (i : Nat) : Stmt := nth PySem.Challenge.pw_mj0101_01.main.body i
def bdy : Stmt → List Stmt | .FunctionDef _ _ b _ _ _ _ _ _ _ => b | _ => []
def prm : Stmt → Arguments | .FunctionDef _ a _ _ _ _ _ _ _ _ => a | _ => { posonlyargs := [], args := [], vararg := none, kwonlyargs := [], kw_defaults := [], kwarg := none, defaults := [] }
def scp : Stmt → Scope | .FunctionDef _ _ _ _ _ _ s _ _ _ => s | _ => { kind := .function, names := [], isGenerator := false, isCoroutine := false, more := [] }
def nam : Stmt → Str | .FunctionDef n _ _ _ _ _ _ _ _ _ => n | _ => ""
def psn : Stmt → Pos | .FunctionDef _ _ _ _ _ _ _ _ _ p => p | _ => ⟨0, 0, 0, 0⟩
def drec (i : Nat) : DefRec := ⟨nam (pst i), prm (pst i), bdy (pst i), scp (pst i), psn (pst i)⟩

theorem rec0 : (recsOf hd.view_39)[0]? = some (drec 1) := by kernel_rfl
theorem rec1 : (recsOf hd.view_39)[1]? = some (drec 3) := by kernel_rfl
theorem rec2 : (recsOf hd.view_39)[2]? = some (drec 4) := by kernel_rfl
theorem rec3 : (recsOf hd.view_39)[3]? = some (drec 6) := by kernel_rfl
theorem rec4 : (recsOf hd.view_39)[4]? = some (drec 7) := by kernel_rfl
theorem rec5 : (recsOf hd.view_39)[5]? = some (drec 8) := by kernel_rfl
theorem rec6 : (recsOf hd.view_39)[6]? = some (drec 9) := by kernel_rfl
theorem rec7 : (recsOf hd.view_39)[7]? = some (drec 10) := by kernel_rfl

def IsFn (h : Heap) (i : Nat) (a : Addr) : Prop :=
  ∃ o pm code doc, h.get? a = some o ∧ o.data = .func (Calls.docDef (nam (pst i)) (prm (pst i)) (bdy (pst i)) (scp (pst i)) pm code doc) ∧ h.CodeRec code (nam (pst i))
theorem IsFn.up {h h' : Heap} {i : Nat} {a : Addr} (x : IsFn h i a) (u : Up h h') : IsFn h' i a :=
  let ⟨o, pm, code, doc, h1, h2, h3⟩ := x; ⟨o, pm, code, doc, u _ _ h1, h2, h3.keeps u⟩

def outs : List Str := ["max", "min", "sorted", "list", "enumerate", "round", "IndexError"]
structure Gd (mg mb : Str → Option Value) (h : Heap) : Prop where
  g : h.Ns mainGlobals mg
  b : h.Ns builtinsNs mb
  lim : h.NoLimit
  fn : ∀ d ∈ recsOf hd.view_39, ∃ a o pm code doc, mg d.name = some (.ref a) ∧ h.get? a = some o ∧ o.data = .func (Calls.docDef d.name d.params d.body d.scope pm code doc) ∧ h.CodeRec code d.name
  miss : ∀ x ∈ outs, mg x = none
  boot : ∀ x : Str, x ≠ "__name__" → mb x = bootBuiltins x
theorem Gd.up {mg mb : Str → Option Value} {h h' : Heap} (G : Gd mg mb h) (u : Up h h') : Gd mg mb h' :=
  ⟨G.g.keeps u, G.b.keeps u, G.lim.keeps u, fun d hd => let ⟨a, o, pm, code, doc, h1, h2, h3, h4⟩ := G.fn d hd; ⟨a, o, pm, code, doc, h1, u _ _ h2, h3, h4.keeps u⟩, G.miss, G.boot⟩

theorem Gd.of_top {mean : ExcName → Option Value} {mg mb : Str → Option Value} {h : Heap} (T : Top hd.view_39 (looseW hd.view_39 []) mean mg mb h) : Gd mg mb h where
  g := T.g
  b := T.b
  lim := T.nolimit
  fn := T.fn
  miss := by
    intro x hx
    have h1 : ∀ x ∈ outs, x ∉ startupNames := by decide +kernel
    have h2 : ∀ x ∈ outs, x ∉ looseW hd.view_39 [] := by decide +kernel
    have h3 : ∀ x ∈ outs, x ∉ (recsOf hd.view_39).map (·.name) := by decide +kernel
    have h4 : ∀ x ∈ outs, x ∉ (litsOf hd.view_39).map (·.1) := by decide +kernel
    have h5 : ∀ x ∈ outs, x ∉ (clssOf hd.view_39 (looseW hd.view_39 [])).map (·.name) := by decide +kernel
    exact T.free x (h1 x hx) (h2 x hx) (h3 x hx) (h4 x hx) (h5 x hx)
  boot := T.builtins

theorem Gd.is {mg mb : Str → Option Value} {h : Heap} (G : Gd mg mb h) {k i : Nat} (e : (recsOf hd.view_39)[k]? = some (drec i)) : ∃ a, mg (nam (pst i)) = some (.ref a) ∧ IsFn h i a := by
  obtain ⟨a, o, pm, code, doc, h1, h2, h3, h4⟩ := G.fn (drec i) (List.mem_of_getElem? e)
  exact ⟨a, h1, o, pm, code, doc, h2, h3, h4⟩

section
variable {M : Model} {A : Around} {E : Value → Shared → Prop} {s : Shared} {env : Env} {Q : Value → Shared → Prop} {mg mb : Str → Option Value}

theorem ldGlob {x : Str} {pos : Pos} {v : Value} (G : Gd mg mb s.heap) (hv : mg x = some v) (h : Q v s)
    (hg : env.globals = mainGlobals := by rfl) (hk : env.scope.kind = .function := by rfl) (hx : env.kindOf x = some .globalImplicit := by rfl)
    (hd : (x == ("__debug__" : Str)) = false := by decide) : wpAny M A (eval (.Name x pos) env) Q E s :=
  Calls.Name_function_global hk hx (Calls.loadGlobal_global (env := env) (hg ▸ G.g) hv h) hd

theorem ldBoot {x : Str} {pos : Pos} {v : Value} (G : Gd mg mb s.heap) (hv : bootBuiltins x = some v) (h : Q v s) (hm : x ∈ outs := by decide)
    (hg : env.globals = mainGlobals := by rfl) (hb : env.builtins = builtinsNs := by rfl) (hk : env.scope.kind = .function := by rfl) (hx : env.kindOf x = some .globalImplicit := by rfl)
    (hn : x ≠ "__name__" := by decide) (hd : (x == ("__debug__" : Str)) = false := by decide) : wpAny M A (eval (.Name x pos) env) Q E s :=
  Calls.Name_function_global hk hx (Calls.loadGlobal_builtin (env := env) (hg ▸ G.g) (G.miss x hm) (hb ▸ G.b) ((G.boot x hn).trans hv) h) hd

theorem ldLoc {x : Str} {pos : Pos} {v : Value} {m : Str → Option Value} (hn : s.heap.Ns env.locals m) (hv : m x = some v) (h : Q v s)
    (hk : env.scope.kind = .function := by rfl) (hl : env.kindOf x = some .local := by rfl) (hd : (x == ("__debug__" : Str)) = false := by decide) :
    wpAny M A (eval (.Name x pos) env) Q E s := wpAny_Name (wpAny_loadName_local hk hl hn hv h) hd

/-- what may be called by a name: a builtin, a type, or a function of the program, whatever the arguments push -/
def Callee (s : Shared) (fv : Value) : Prop := (∃ id, fv = .builtin id) ∨ (∃ T, fv = .type T) ∨ (∃ a o fd, fv = .ref a ∧ s.heap.get? a = some o ∧ o.data = .func fd)
theorem Callee.bi {s : Shared} {id : String} : Callee s (.builtin id) := .inl ⟨_, rfl⟩
theorem Callee.ty {s : Shared} {id : String} : Callee s (.type id) := .inr (.inl ⟨_, rfl⟩)
theorem Callee.fn {s : Shared} {i : Nat} {a : Addr} (x : IsFn s.heap i a) : Callee s (.ref a) := let ⟨o, pm, code, doc, h1, h2, _⟩ := x; .inr (.inr ⟨a, o, _, rfl, h1, h2⟩)

theorem callE {f : Str} {p pos : Pos} {e : Expr} {rest : List Expr}
    (h : wpAny M A (eval (.Name f p) env) (fun fv s₁ => Callee s₁ fv ∧ wpAny M A (spliced (backTo pos (starEach (e :: rest) env))) (fun vs s₂ => Up s₁.heap s₂.heap ∧ wpAny M A (call fv vs) Q E s₂) E s₁) E s)
    (he : starEach (e :: rest) env = (false, eval e env) :: starEach rest env := by rfl)
    (hplain : (backTo pos (starEach rest env)).any (·.1) = false := by rfl)
    (hc : eval (.Call (.Name f p) (e :: rest) [] pos) env = (do callWith pos (← eval (.Name f p) env) [] (backTo pos (starEach (e :: rest) env)) (backToKw pos (keywordEach [] env))) := by rfl) :
    wpAny M A (eval (.Call (.Name f p) (e :: rest) [] pos) env) Q E s := by
  refine Call_ (wpAny_mono h (fun fv s₁ h₁ => ?_) fun _ _ x => x) hc
  obtain ⟨hc, h₁⟩ := h₁
  rw [he] at h₁ ⊢
  have hpl : (backTo pos ((false, eval e env) :: starEach rest env)).any (·.1) = false := by show (false || (backTo pos (starEach rest env)).any (·.1)) = false; rw [hplain]; rfl
  rcases hc with ⟨id, rfl⟩ | ⟨T, rfl⟩ | ⟨a, o, fd, rfl, ho, hd⟩
  · exact Calls.callWith_builtin hpl (Calls.evalArgs_plain (wpAny_mono h₁ (fun vs s₂ h₂ => h₂.2) fun _ _ x => x))
  · exact PySem.callWith_type hpl (Calls.evalArgs_plain (wpAny_mono h₁ (fun vs s₂ h₂ => h₂.2) fun _ _ x => x))
  · exact Calls.callWith_function (o := o) (fd := fd) (Calls.evalArgs_plain (wpAny_mono h₁ (fun vs s₂ h₂ => ⟨⟨h₂.1 _ _ ho, hd⟩, h₂.2⟩) fun _ _ x => x))

theorem callE1 {f : Str} {p pos : Pos} {e : Expr}
    (h : wpAny M A (eval (.Name f p) env) (fun fv s₁ => Callee s₁ fv ∧ wpAny M A (eval e env) (fun v s₂ => Up s₁.heap s₂.heap ∧ wpAny M A (call fv [v]) Q E s₂) E s₁) E s)
    (he : starEach [e] env = (false, eval e env) :: starEach [] env := by rfl)
    (hc : eval (.Call (.Name f p) [e] [] pos) env = (do callWith pos (← eval (.Name f p) env) [] (backTo pos (starEach [e] env)) (backToKw pos (keywordEach [] env))) := by rfl) :
    wpAny M A (eval (.Call (.Name f p) [e] [] pos) env) Q E s :=
  callE (wpAny_mono h (fun fv s₁ h₁ => ⟨h₁.1, args_cons (wpAny_mono h₁.2 (fun v s₂ h₂ => args_nil h₂) fun _ _ x => x) he⟩) fun _ _ x => x) he rfl hc

theorem callE2 {f : Str} {p pos : Pos} {e e2 : Expr}
    (h : wpAny M A (eval (.Name f p) env) (fun fv s₁ => Callee s₁ fv ∧ wpAny M A (eval e env) (fun v s₂ => wpAny M A (eval e2 env) (fun v2 s₃ => Up s₁.heap s₃.heap ∧ wpAny M A (call fv [v, v2]) Q E s₃) E s₂) E s₁) E s)
    (he : starEach [e, e2] env = (false, eval e env) :: starEach [e2] env := by rfl)
    (he2 : starEach [e2] env = (false, eval e2 env) :: starEach [] env := by rfl)
    (hpl : (backTo pos (starEach [e2] env)).any (·.1) = false := by rfl)
    (hc : eval (.Call (.Name f p) [e, e2] [] pos) env = (do callWith pos (← eval (.Name f p) env) [] (backTo pos (starEach [e, e2] env)) (backToKw pos (keywordEach [] env))) := by rfl) :
    wpAny M A (eval (.Call (.Name f p) [e, e2] [] pos) env) Q E s :=
  callE (wpAny_mono h (fun fv s₁ h₁ => ⟨h₁.1, args_cons (wpAny_mono h₁.2 (fun v s₂ h₂ => args_cons (wpAny_mono h₂ (fun v s₃ h₃ => args_nil h₃) fun _ _ x => x) he2) fun _ _ x => x) he⟩) fun _ _ x => x) he hpl hc

theorem callE3 {f : Str} {p pos : Pos} {e e2 e3 : Expr}
    (h : wpAny M A (eval (.Name f p) env) (fun fv s₁ => Callee s₁ fv ∧ wpAny M A (eval e env) (fun v s₂ => wpAny M A (eval e2 env) (fun v2 s₃ => wpAny M A (eval e3 env) (fun v3 s₄ => Up s₁.heap s₄.heap ∧ wpAny M A (call fv [v, v2, v3]) Q E s₄) E s₃) E s₂) E s₁) E s)
    (he : starEach [e, e2, e3] env = (false, eval e env) :: starEach [e2, e3] env := by rfl)
    (he2 : starEach [e2, e3] env = (false, eval e2 env) :: starEach [e3] env := by rfl)
    (he3 : starEach [e3] env = (false, eval e3 env) :: starEach [] env := by rfl)
    (hpl : (backTo pos (starEach [e2, e3] env)).any (·.1) = false := by rfl)
    (hc : eval (.Call (.Name f p) [e, e2, e3] [] pos) env = (do callWith pos (← eval (.Name f p) env) [] (backTo pos (starEach [e, e2, e3] env)) (backToKw pos (keywordEach [] env))) := by rfl) :
    wpAny M A (eval (.Call (.Name f p) [e, e2, e3] [] pos) env) Q E s :=
  callE (wpAny_mono h (fun fv s₁ h₁ => ⟨h₁.1, args_cons (wpAny_mono h₁.2 (fun v s₂ h₂ => args_cons (wpAny_mono h₂ (fun v s₃ h₃ => args_cons (wpAny_mono h₃ (fun v s₄ h₄ => args_nil h₄) fun _ _ x => x) he3) fun _ _ x => x) he2) fun _ _ x => x) he⟩) fun _ _ x => x) he hpl hc
end
end
end Mine

-- part W3
namespace Mine
noncomputable section

theorem krefl (s : Shared) : Keeps s s := ⟨s.heap, s.toks, rfl, fun _ _ e => e⟩
theorem ktrans {a b c : Shared} (x : Keeps a b) (y : Keeps b c) : Keeps a c := by
  obtain ⟨h1, t1, rfl, u1⟩ := x
  obtain ⟨h2, t2, rfl, u2⟩ := y
  exact ⟨h2, t2, rfl, fun b o e => u2 b o (u1 b o e)⟩
theorem kup {a b : Shared} (x : Keeps a b) : Up a.heap b.heap := by
  obtain ⟨h1, t1, rfl, u1⟩ := x; exact u1
theorem ktok (s : Shared) (t : Nat) : Keeps s { s with toks := t } := ⟨s.heap, t, rfl, fun _ _ e => e⟩
theorem kmk {s : Shared} {h : Heap} {t : Nat} (u : Up s.heap h) : Keeps s { s with heap := h, toks := t } := ⟨h, t, rfl, u⟩
theorem kpush (s : Shared) (o : Obj) : Keeps s { s with heap := s.heap.push o } := ⟨_, _, rfl, fun _ _ e => Heap.get?_push_of_some _ e⟩

structure Sf (s₀ : Shared) (L : Addr) (m : Str → Option Value) (nw : List (Addr × Obj)) (s : Shared) : Prop where
  sm : ∃ h' tk, s = { s₀ with heap := h', toks := tk }
  fr : Fr s₀.heap L s.heap m
  nw : News s₀.heap L s.heap nw

namespace Sf
variable {s₀ s s' : Shared} {L : Addr} {m : Str → Option Value} {nw : List (Addr × Obj)}
theorem ns (F : Sf s₀ L m nw s) : s.heap.Ns L m := F.fr.ns
theorem keeps (F : Sf s₀ L m nw s) : Keeps s₀ s := by
  obtain ⟨h', tk, rfl⟩ := F.sm
  exact ⟨h', tk, rfl, F.fr.keep⟩
theorem up (F : Sf s₀ L m nw s) : Up s₀.heap s.heap := F.fr.keep
theorem kp (F : Sf s₀ L m nw s) (k : Keeps s s') : Sf s₀ L m nw s' := by
  obtain ⟨h', tk, rfl⟩ := F.sm
  obtain ⟨h2, t2, rfl, u2⟩ := k
  exact ⟨⟨h2, t2, rfl⟩, ⟨F.fr.ns.keeps u2, fun b o e => u2 b o (F.fr.keep b o e), F.fr.above⟩, fun p hp => ⟨u2 _ _ (F.nw p hp).1, (F.nw p hp).2⟩⟩
theorem tok (F : Sf s₀ L m nw s) (t : Nat) : Sf s₀ L m nw { s with toks := t } := F.kp (ktok s t)
theorem gd {mg mb : Str → Option Value} (F : Sf s₀ L m nw s) (G : Gd mg mb s₀.heap) : Gd mg mb s.heap := G.up F.up
theorem get {a : Addr} {o : Obj} (F : Sf s₀ L m nw s) (hm : (a, o) ∈ nw) : s.heap.get? a = some o := F.nw.get hm
theorem fresh {a : Addr} (F : Sf s₀ L m nw s) (h : s.heap.get? a = none) : s₀.heap.get? a = none := by
  cases e : s₀.heap.get? a with
  | none => rfl
  | some o => rw [F.up _ _ e] at h; cases h
theorem add {a : Addr} {o : Obj} (F : Sf s₀ L m nw s) (k : Keeps s s') (h : s.heap.get? a = none) (h' : s'.heap.get? a = some o) : Sf s₀ L m ((a, o) :: nw) s' := by
  have F' := F.kp k
  refine ⟨F'.sm, F'.fr, fun p hp => ?_⟩
  rcases List.mem_cons.mp hp with rfl | hp
  · refine ⟨h', ?_, F.fresh h⟩
    rintro rfl
    obtain ⟨o, _, _, e, _⟩ := F.ns
    rw [e] at h; cases h
  · exact F'.nw p hp
theorem sub {nw' : List (Addr × Obj)} (F : Sf s₀ L m nw s) (h : ∀ p ∈ nw', p ∈ nw) : Sf s₀ L m nw' s := ⟨F.sm, F.fr, fun p hp => F.nw p (h p hp)⟩
end Sf

section
variable {prog : Program} {w : World} {A : Around} {E : Value → Shared → Prop} {s s₀ : Shared} {env : Env} {Q : Value → Shared → Prop} {mg mb : Str → Option Value}
  {L : Addr} {m : Str → Option Value} {nw : List (Addr × Obj)}

theorem ldS {M : Model} {x : Str} {pos : Pos} {v : Value} (F : Sf s₀ env.locals m nw s) (hv : m x = some v) (h : Q v s)
    (hk : env.scope.kind = .function := by rfl) (hl : env.kindOf x = some .local := by rfl) (hd : (x == ("__debug__" : Str)) = false := by decide) :
    wpAny M A (eval (.Name x pos) env) Q E s := ldLoc F.ns hv h hk hl hd
theorem bootS {M : Model} {x : Str} {pos : Pos} {v : Value} (F : Sf s₀ L m nw s) (G : Gd mg mb s₀.heap) (hv : bootBuiltins x = some v) (h : Q v s) (hm : x ∈ outs := by decide)
    (hg : env.globals = mainGlobals := by rfl) (hb : env.builtins = builtinsNs := by rfl) (hk : env.scope.kind = .function := by rfl) (hx : env.kindOf x = some .globalImplicit := by rfl)
    (hn : x ≠ "__name__" := by decide) (hd : (x == ("__debug__" : Str)) = false := by decide) : wpAny M A (eval (.Name x pos) env) Q E s :=
  ldBoot (F.gd G) hv h hm hg hb hk hx hn hd
theorem globS {M : Model} {i : Nat} {x : Str} {pos : Pos} {a : Addr} (F : Sf s₀ L m nw s) (G : Gd mg mb s₀.heap) (hv : mg x = some (.ref a)) (h : Q (.ref a) s)
    (hg : env.globals = mainGlobals := by rfl) (hk : env.scope.kind = .function := by rfl) (hx : env.kindOf x = some .globalImplicit := by rfl)
    (hd : (x == ("__debug__" : Str)) = false := by decide) : wpAny M A (eval (.Name x pos) env) Q E s :=
  ldGlob (F.gd G) hv h hg hk hx hd
theorem stS {M : Model} {x : Str} {v : Value} {Q : Unit → Shared → Prop} (F : Sf s₀ env.locals m nw s)
    (h : ∀ s', Sf s₀ env.locals (fun y => if y = x then some v else m y) nw s' → Q () s')
    (hl : env.kindOf x = some .local := by rfl) (hp : (env.scope.kind == .class || (env.scope.kind == .module && env.locals != env.globals)) = false := by rfl) :
    wpAny M A (storeName env x v) Q E s := by
  refine wpAny_storeName_local hl F.ns (fun h' hn hs => h _ ?_) hp
  obtain ⟨h1, t1, rfl⟩ := F.sm
  exact ⟨⟨h', _, rfl⟩, F.fr.set hn hs, F.nw.set hs⟩
theorem fltS {M : Model} {x k pos} (F : Sf s₀ L m nw s) (h : ∀ s' t, Sf s₀ L m nw s' → Q (.float x t) s') : wpAny M A (eval (.Constant (.float x) k pos) env) Q E s :=
  AutoFloatOps.wpAny_Constant_float (h _ _ (F.tok _))
theorem intS {M : Model} {x k pos} (F : Sf s₀ L m nw s) (h : ∀ s' t, Sf s₀ L m nw s' → Q (.int x t) s') : wpAny M A (eval (.Constant (.int x) k pos) env) Q E s :=
  wpAny_Constant_int (h _ _ (F.tok _))
theorem subS {a b : UInt64} {t u : Tok} (F : Sf s₀ L m nw s) (h : ∀ s' t, Sf s₀ L m nw s' → Q (.float (Float64.sub a b) t) s') : wpAny (model prog w) A (binaryOp .Sub (.float a t) (.float b u)) Q E s :=
  AutoFloatOps.sub_0 (h _ _ (F.tok _))
theorem addS {a b : UInt64} {t u : Tok} (F : Sf s₀ L m nw s) (h : ∀ s' t, Sf s₀ L m nw s' → Q (.float (Float64.add a b) t) s') : wpAny (model prog w) A (binaryOp .Add (.float a t) (.float b u)) Q E s :=
  AutoFloatOps.add_0 (h _ _ (F.tok _))
theorem divS {a b : UInt64} {t u : Tok} (F : Sf s₀ L m nw s) (hz : Float64.isZero b = false) (h : ∀ s' t, Sf s₀ L m nw s' → Q (.float (Float64.div a b) t) s') : wpAny (model prog w) A (binaryOp .Div (.float a t) (.float b u)) Q E s :=
  AutoFloatOps.truediv_1 (by rw [hz]; exact fun x => nomatch x) (h _ _ (F.tok _))
theorem modS {a b : UInt64} {t u : Tok} (F : Sf s₀ L m nw s) (hz : Float64.isZero b = false) (h : ∀ s' t, Sf s₀ L m nw s' → Q (.float (Float64.divmod a b).2 t) s') : wpAny (model prog w) A (binaryOp .Mod (.float a t) (.float b u)) Q E s :=
  AutoFloatOps.mod_1 (by rw [hz]; exact fun x => nomatch x) (h _ _ (F.tok _))
theorem eqS {a b : UInt64} {t u : Tok} (F : Sf s₀ L m nw s) (h : Q (.bool (feq a b)) s) : wpAny (model prog w) A (compareOp .Eq (.float a t) (.float b u)) Q E s := AutoFloatOps.eq_0 h
theorem leS {a b : UInt64} {t u : Tok} (F : Sf s₀ L m nw s) (h : Q (.bool (fle a b)) s) : wpAny (model prog w) A (compareOp .LtE (.float a t) (.float b u)) Q E s := AutoFloatOps.le_0 h
theorem maxS {a b c : UInt64} {t u x : Tok} (F : Sf s₀ L m nw s) (hh : A.handled = none) (h : ∀ s' t, Sf s₀ L m nw s' → Q (.float (fmax3 a b c) t) s') :
    wpAny (model prog w) A (call (.builtin "max") [.float a t, .float b u, .float c x]) Q E s :=
  max3f hh fun h' tk t' u => h _ _ (F.kp (kmk u))
theorem minS {a b c : UInt64} {t u x : Tok} (F : Sf s₀ L m nw s) (hh : A.handled = none) (h : ∀ s' t, Sf s₀ L m nw s' → Q (.float (fmin3 a b c) t) s') :
    wpAny (model prog w) A (call (.builtin "min") [.float a t, .float b u, .float c x]) Q E s :=
  min3f hh fun h' tk t' u => h _ _ (F.kp (kmk u))

theorem tup3S {e1 e2 e3 : Expr} {x1} {pos : Pos}
    (h : wpAny (model prog w) A (eval e1 env) (fun v1 s₁ => wpAny (model prog w) A (eval e2 env) (fun v2 s₂ => wpAny (model prog w) A (eval e3 env) (fun v3 s₃ =>
      ∀ T s', Keeps s₃ s' → s₃.heap.get? T = none → s'.heap.get? T = some { cls := .type "tuple", data := .seq #[v1, v2, v3] } → Q (.ref T) s') E s₂) E s₁) E s)
    (he : starEach [e1, e2, e3] env = (false, eval e1 env) :: starEach [e2, e3] env := by rfl)
    (he2 : starEach [e2, e3] env = (false, eval e2 env) :: starEach [e3] env := by rfl)
    (he3 : starEach [e3] env = (false, eval e3 env) :: starEach [] env := by rfl) :
    wpAny (model prog w) A (eval (.Tuple [e1, e2, e3] x1 pos) env) Q E s := by
  refine wpAny_Tuple_spliced (args_cons (wpAny_mono h (fun v s₂ h₂ => args_cons (wpAny_mono h₂ (fun v s₃ h₃ => args_cons (wpAny_mono h₃ (fun v s₄ h₄ => args_nil ?_) fun _ _ x => x) he3) fun _ _ x => x) he2) fun _ _ x => x) he)
  refine ⟨by show 3 ≤ sizeLine; decide, h₄ _ _ (kpush _ _) ?_ (Heap.get?_push_size _ rfl)⟩
  cases e : s₄.heap.get? s₄.heap.objs.size with
  | none => rfl
  | some o => exact absurd (Heap.lt_size e) (Nat.lt_irrefl _)

/-- a call of a plain def of the program, that ends by a return -/
theorem fnCall {i : Nat} {a : Addr} {args : List Value} (G : Gd mg mb s.heap) (hf : IsFn s.heap i a) (hroom : A.depth < recursionLimit)
    (hbind : ∀ pm cd doc, bindArgs (Calls.docDef (nam (pst i)) (prm (pst i)) (bdy (pst i)) (scp (pst i)) pm cd doc) ⟨args, []⟩ = pure (((prm (pst i)).args.map (·.arg)).zip args))
    (hloc : ∀ x ∈ ((prm (pst i)).args.map (·.arg)).zip args, (scp (pst i)).names.lookup x.1 = some .local)
    (h : ∀ cd s₁, Sf s s.heap.objs.size (fun x => (((prm (pst i)).args.map (·.arg)).zip args).reverse.lookup x) [] s₁ →
      wpAny (model prog w) (A.deeper (envOf (nam (pst i)) (scp (pst i)) s.heap.objs.size a cd)) (execs (bdy (pst i)) (envOf (nam (pst i)) (scp (pst i)) s.heap.objs.size a cd))
        (fun f s' => Q (match f with | .ret v => v | _ => .none) s') (fun _ _ => False) s₁)
    (hco : (scp (pst i)).isCoroutine = false) (hgen : (scp (pst i)).isGenerator = false) (hk : (scp (pst i)).kind = .function)
    (hcell : ∀ x ∈ (scp (pst i)).names, x.2 ≠ .cell) :
    wpAny (model prog w) A (call (.ref a) args) Q E s := by
  obtain ⟨o, pm, code, doc, ho, hd, hc⟩ := hf
  exact wpAny_call (call_pos_ret hroom ho hd G.lim hc (hbind _ _ _) hloc (fun h₁ F => h _ _ ⟨⟨_, _, rfl⟩, F, News.nil⟩) hco hgen hk hcell)
end
end
end Mine

-- part X1
namespace Mine
noncomputable section

/-- an IndexError's object: its traceback is there where tb says so; c is its context -/
def ExAt (g h : Heap) (e : Addr) (tb : Bool) (c : Value) : Prop :=
  ∃ oe vs, h.get? e = some oe ∧ g.get? e = none ∧ oe.cls = .type "IndexError" ∧ oe.data = .fields vs ∧ vs[2]? = some c ∧
    ((tb = false ∧ vs[1]? = some .none) ∨ ∃ T oT ts fl, vs[1]? = some (.ref T) ∧ g.get? T = none ∧ T ≠ e ∧ h.get? T = some oT ∧ oT.data = .fields ts ∧ ts[3]? = some fl)

theorem ExAt.weak {g h : Heap} {e : Addr} {tb : Bool} {c : Value} (x : ExAt g h e tb c) : ExAt g h e false c := by
  obtain ⟨oe, vs, a1, a2, a3, a4, a5, a6⟩ := x
  refine ⟨oe, vs, a1, a2, a3, a4, a5, ?_⟩
  rcases a6 with ⟨_, a6⟩ | a6
  · exact .inl ⟨rfl, a6⟩
  · exact .inr a6
theorem ExAt.keep {g h h' : Heap} {e L : Addr} {tb : Bool} {c : Value} (x : ExAt g h e tb c) (hL : ∀ o, h.get? L = some o → ∀ vs, o.data ≠ .fields vs)
    (k : ∀ b o, b ≠ L → h.get? b = some o → h'.get? b = some o) : ExAt g h' e tb c := by
  obtain ⟨oe, vs, a1, a2, a3, a4, a5, a6⟩ := x
  refine ⟨oe, vs, k _ _ (fun q => by subst q; exact hL _ a1 _ a4) a1, a2, a3, a4, a5, ?_⟩
  rcases a6 with ⟨b1, b2⟩ | ⟨T, oT, ts, fl, b1, b2, b3, b4, b5, b6⟩
  · exact .inl ⟨b1, b2⟩
  · exact .inr ⟨T, oT, ts, fl, b1, b2, b3, k _ _ (fun q => by subst q; exact hL _ b4 _ b5) b4, b5, b6⟩

/-- what a step of an exception's does to the heap -/
structure Chg (g : Heap) (fr : List Addr) (h h' : Heap) : Prop where
  old : ∀ b o, g.get? b = some o → b ∉ fr → h.get? b = some o → h'.get? b = some o
  up : h.UpToSlots h'
theorem Chg.refl (g : Heap) (fr : List Addr) (h : Heap) : Chg g fr h h := ⟨fun _ _ _ _ e => e, .refl _⟩
theorem Chg.trans {g : Heap} {fr : List Addr} {a b c : Heap} (x : Chg g fr a b) (y : Chg g fr b c) : Chg g fr a c :=
  ⟨fun d o e1 e2 e3 => y.old d o e1 e2 (x.old d o e1 e2 e3), x.up.trans y.up⟩

section
variable {M : Model} {A : Around} {E : Value → Shared → Prop} {s : Shared} {env : Env} {outer : List Env} {g B : Heap} {L e : Addr} {c : Value} {tb : Bool}

theorem setF {a : Addr} {o : Obj} {vs : Array Value} {i : Nat} {x : Value} {Q : Unit → Shared → Prop} (ho : s.heap.get? a = some o) (hd : o.data = .fields vs) (hi : i < vs.size)
    (h : ∀ h', (∀ b, b ≠ a → h'.get? b = s.heap.get? b) → h'.get? a = some (o.mapFields (·.setIfInBounds i x)) → Q () { s with heap := h' }) : wpAny M A (setField (.ref a) i x) Q E s :=
  wpAny_setField ho hd hi (h _ (fun b hb => Heap.get?_update_other _ _ (Ne.symm hb)) (Heap.get?_update_self _ ho (Obj.isFreed_of_fields (Obj.data_mapFields hd _))))

theorem entry_ex {oe : Obj} {vs : Array Value} {head : Value} {hadNext : Bool} {Q : Unit → Shared → Prop}
    (hfr : A.frames = some (env :: outer)) (hl : s.heap.FunFrames B (env :: outer)) (hf : env.frame = some L)
    (he : s.heap.get? e = some oe) (hg : g.get? e = none) (ha : ∀ b, s.heap.get? b = none → g.get? b = none) (hc : oe.cls = .type "IndexError") (hd : oe.data = .fields vs) (hsz : 1 < vs.size) (h2 : vs[2]? = some c)
    (h : ∀ h', ExAt g h' e true c → Chg g ((env :: outer).filterMap (·.frame)) s.heap h' → Q () { s with heap := h' }) :
    wpAny M A (do let a ← frameOf env; let pl ← entryPlaceOf L hadNext; let b ← EntryCells.newEntry head a .none (rawInt L) .none pl; setField (.ref e) 1 b) Q E s := by
  have hene : e ∉ (env :: outer).filterMap (·.frame) := fun hm => by
    obtain ⟨_, o, ho, hnf⟩ := hl.mem hm
    rw [he] at ho; injection ho with ho; subst ho; exact hnf vs hd
  refine wpAny_bind (wpAny_frameOf_fun hfr hl hf fun h₁ hs₁ => ?_)
  refine wpAny_bind (wpAny_entryPlaceOf fun pl hpl => ?_)
  unfold EntryCells.newEntry newFields
  refine wpAny_bind (wpAny_newObj_type ?_ (hpl.sizeOk5 _ _ _ _ _))
  have he₁ : h₁.get? e = some oe := (hs₁.2.1 e hene).trans he
  refine setF (Heap.get?_push_of_some _ he₁) hd hsz fun h₂ hk₂ he₂ => ?_
  dsimp only at hk₂ he₂
  have hTe : h₁.objs.size ≠ e := Nat.ne_of_gt (Heap.lt_size he₁)
  have hnone : s.heap.get? h₁.objs.size = none := by
    cases q : s.heap.get? h₁.objs.size with
    | none => rfl
    | some o => obtain ⟨sl, q'⟩ := hs₁.2.2 _ _ q; exact absurd (Heap.lt_size q') (Nat.lt_irrefl _)
  refine h h₂ ⟨_, _, he₂, hg, (Obj.cls_mapFields _ _).trans hc, Obj.data_mapFields hd _, by rw [Array.getElem?_setIfInBounds_ne (by decide)]; exact h2,
    .inr ⟨h₁.objs.size, _, _, rawInt L, by simp [hsz], ha _ hnone, hTe, (hk₂ _ hTe).trans (Heap.get?_push_size _ rfl), rfl, by simp⟩⟩ ⟨fun b o e1 e2 e3 => ?_, fun b o e1 e2 => ?_⟩
  · rw [hk₂ b (fun q => by subst q; rw [hg] at e1; cases e1)]
    exact Heap.get?_push_of_some _ ((hs₁.2.1 b e2).trans e3)
  · obtain ⟨sl, hs⟩ := hs₁.2.2 b o e1
    exact ⟨sl, by rw [hk₂ b (fun q => by subst q; rw [he] at e1; cases e1; exact e2 _ hd)]; exact Heap.get?_push_of_some _ hs⟩

theorem note_ex {Q : Unit → Shared → Prop} (hfr : A.frames = some (env :: outer)) (hl : s.heap.FunFrames B (env :: outer)) (hf : env.frame = some L)
    (ha : ∀ b, s.heap.get? b = none → g.get? b = none) (x : ExAt g s.heap e tb c)
    (h : ∀ h', ExAt g h' e true c → Chg g ((env :: outer).filterMap (·.frame)) s.heap h' → Q () { s with heap := h' }) : wpAny M A (noteFrame (.ref e) env) Q E s := by
  obtain ⟨oe, vs, he, hg, hc, hd, h2, h1⟩ := id x
  unfold noteFrame
  simp only [hf]
  rcases h1 with ⟨rfl, h1⟩ | ⟨T, oT, ts, fl, h1, hgT, hTe, hT, hdT, h3⟩
  · refine wpAny_bind (wpAny_field he hd h1 ?_)
    rw [if_neg (show ¬ ((Value.none != Value.none) = true) from by simp)]
    exact entry_ex hfr hl hf he hg ha hc hd (Array.getElem?_eq_some_iff.mp h1).1 h2 h
  · refine wpAny_bind (wpAny_field he hd h1 ?_)
    rw [if_pos (show (Value.ref T != Value.none) = true from by simp)]
    refine wpAny_bind (wpAny_field hT hdT h3 ?_)
    by_cases hfl : (fl == rawInt L) = true
    · rw [if_pos hfl]
      exact wpAny_pure (h _ ⟨oe, vs, he, hg, hc, hd, h2, .inr ⟨T, oT, ts, fl, h1, hgT, hTe, hT, hdT, h3⟩⟩ (.refl ..))
    · rw [if_neg hfl]
      refine wpAny_bind (setF hT hdT (Array.getElem?_eq_some_iff.mp h3).1 fun h₁ hk₁ hT₁ => ?_)
      have nr : ∀ b o, s.heap.get? b = some o → (∀ vs, o.data ≠ .fields vs) → b ≠ T := fun b o hb hnf q => by
        rw [q, hT] at hb; injection hb with hb; subst hb; exact hnf ts hdT
      refine entry_ex (g := g) (s := { s with heap := h₁ }) hfr (hl.of_keeps fun b o hb hnf => ⟨o, (hk₁ b (nr b o hb hnf)).trans hb, rfl⟩) hf ((hk₁ e (Ne.symm hTe)).trans he) hg ?_ hc hd (Array.getElem?_eq_some_iff.mp h1).1 h2 ?_
      · intro b hb
        by_cases q : b = T
        · subst q; exact hgT
        · exact ha b ((hk₁ b q).symm.trans hb)
      · intro h' x' y'
        refine h h' x' (Chg.trans ⟨fun b o e1 e2 e3 => ?_, fun b o e1 e2 => ⟨o.slots, (hk₁ b (nr b o e1 e2)).trans e1⟩⟩ y')
        exact (hk₁ b (fun q => by subst q; rw [hgT] at e1; cases e1)).trans e3

theorem flight_ex {fr : List Addr} {fl : Option Addr} {Q : Unit → Shared → Prop} (x : ExAt g s.heap e true c)
    (h : ∀ h', ExAt g h' e true c → Chg g fr s.heap h' → Q () { s with heap := h' }) : wpAny M A (setFlight (.ref e) fl) Q E s := by
  obtain ⟨oe, vs, he, hg, hc, hd, h2, h1⟩ := id x
  rcases h1 with ⟨q, _⟩ | ⟨T, oT, ts, fl', h1, hgT, hTe, hT, hdT, h3⟩
  · cases q
  have hsz := (Array.getElem?_eq_some_iff.mp h3).1
  unfold setFlight
  refine wpAny_bind (wpAny_field he hd h1 ?_)
  rw [if_pos (show (Value.ref T != Value.none) = true from by simp)]
  refine setF hT hdT hsz fun h₁ hk₁ hT₁ => h h₁ ?_ ⟨fun b o e1 e2 e3 => ?_, fun b o e1 e2 => ⟨o.slots, ?_⟩⟩
  · exact ⟨oe, vs, (hk₁ e (Ne.symm hTe)).trans he, hg, hc, hd, h2, .inr ⟨T, _, _, _, h1, hgT, hTe, hT₁, Obj.data_mapFields hdT _, by rw [Array.getElem?_setIfInBounds_self_of_lt hsz]⟩⟩
  · exact (hk₁ b (fun q => by subst q; rw [hgT] at e1; cases e1)).trans e3
  · exact (hk₁ b (fun q => by subst q; rw [hT] at e1; injection e1 with e1; subst e1; exact e2 ts hdT)).trans e1

theorem passOn_ex {α : Type} {fr : List Addr} {what : String} {Q : α → Shared → Prop} (x : ExAt g s.heap e true c)
    (h : ∀ h', ExAt g h' e true c → Chg g fr s.heap h' → E (.ref e) { s with heap := h' }) : wpAny M A (PySem.passOn what (.ref e) env : Sem α) Q E s := by
  obtain ⟨oe, vs, he, hg, hc, hd, h2, h1⟩ := id x
  rcases h1 with ⟨q, _⟩ | ⟨T, oT, ts, fl', h1, hgT, hTe, hT, hdT, h3⟩
  · cases q
  unfold PySem.passOn
  refine wpAny_bind (wpAny_field he hd h1 ?_)
  rw [if_neg (show ¬ ((Value.ref T == Value.none) = true) from by simp)]
  first
    | exact wpAny_bind (wpAny_pure (wpAny_bind (flight_ex x fun h' x' y' => wpAny_throw (h h' x' y'))))
    | exact wpAny_bind (flight_ex x fun h' x' y' => wpAny_throw (h h' x' y'))

theorem back_ex {fr : List Addr} (x : ExAt g s.heap e true c)
    (h : ∀ h', ExAt g h' e true c → Chg g fr s.heap h' → E (.ref e) { s with heap := h' }) : cameBackBy M A env E (.ref e) s := by
  obtain ⟨oe, vs, he, hg, hc, hd, h2, h1⟩ := id x
  rcases h1 with ⟨q, _⟩ | ⟨T, oT, ts, fl', h1, hgT, hTe, hT, hdT, h3⟩
  · cases q
  unfold cameBackBy
  refine wpAny_bind (wpAny_field he hd h1 ?_)
  rw [if_neg (show ¬ ((Value.ref T == Value.none) = true) from by simp)]
  first
    | exact wpAny_bind (wpAny_pure (flight_ex x fun h' x' y' => h h' x' y'))
    | exact flight_ex x fun h' x' y' => h h' x' y'
end

/-- what is handled, where something may be raised -/
def Hd (A : Around) (h : Heap) : Prop := A.handled = none ∨ ∃ e1 o vs, A.handled = some (.ref e1) ∧ h.get? e1 = some o ∧ o.data = .fields vs ∧ vs[2]? = some .none

section
variable {prog : Program} {w : World} {A : Around} {E : Value → Shared → Prop} {s : Shared}
theorem entry_unchain : entryFor table "proto.unchain" = some Builtin.«proto.unchain» := entryFor_of_tree (by kernel_rfl)

theorem raise_any {α : Type} {msg : String} {Q : α → Shared → Prop} (hh : Hd A s.heap)
    (h : ∀ h' tk e c, Up s.heap h' → ExAt s.heap h' e false c → (A.handled = none → c = .none) → E (.ref e) { s with heap := h', toks := tk }) :
    wpAny (model prog w) A (raiseErrorWords "IndexError" msg : Sem α) Q E s := by
  have hp := plainExc_IndexError
  unfold raiseErrorWords
  refine wpAny_bind (wpAny_mkText (wpAny_bind ?_))
  unfold newExc newTuple
  refine wpAny_bind (wpAny_newObj_type ?_)
  refine wpAny_bind (m := firstArgMember _ _) (wpAny_of_eq (a := Value.none) (by simp only [firstArgMember, hp.first]; rfl) ?_)
  rw [hp.own]
  refine wpAny_newObj_type ?_
  unfold raiseNew
  refine wpAny_bind (wpAny_handled ?_)
  rcases hh with hh | ⟨e1, o, vs, hh, ho, hd, h2⟩
  · rw [hh]
    first
      | refine wpAny_throw ?_
      | refine wpAny_bind (wpAny_pure (wpAny_throw ?_))
    exact h _ _ _ .none (fun b o hb => Heap.get?_push_of_some _ (Heap.get?_push_of_some _ hb)) ⟨_, _, Heap.get?_push_size _ rfl, Heap.get?_none_of_le (by simp), rfl, rfl, rfl, .inl ⟨rfl, rfl⟩⟩ fun _ => rfl
  · rw [hh]
    have hlt := Heap.lt_size ho
    have ho2 : ∀ x y, ((s.heap.push x).push y).get? e1 = some o := fun x y => Heap.get?_push_of_some _ (Heap.get?_push_of_some _ ho)
    have hne : ∀ x, e1 ≠ (s.heap.push x).objs.size := fun x => by rw [Heap.size_push]; exact Nat.ne_of_lt (Nat.lt_succ_of_lt hlt)
    dsimp only
    rw [if_pos (by simp; exact Nat.ne_of_lt (Nat.lt_succ_of_lt hlt))]
    refine wpAny_bind (wpAny_holding (wpAny_runValue (codeAny_builtin entry_unchain ?_)))
    unfold Builtin.«proto.unchain»
    dsimp only
    refine wpAny_bind (wpAny_field (ho2 _ _) hd h2 ?_)
    rw [if_pos (show (Value.none == Value.none) = true from by simp)]
    refine wpAny_bind (wpAny_pure (wpAny_pure ?_))
    refine wpAny_bind ?_
    show wpAny _ _ (setField (.ref _) 2 (.ref e1)) _ _ _
    refine setF (Heap.get?_push_size _ rfl) rfl (by simp) fun h₂ hk₂ he₂ => wpAny_throw ?_
    dsimp only at hk₂ he₂
    refine h h₂ _ _ (.ref e1) (fun b o hb => ?_) ⟨_, _, he₂, Heap.get?_none_of_le (by simp), rfl, Obj.data_mapFields rfl _, rfl, .inl ⟨rfl, rfl⟩⟩ fun q => by rw [hh] at q; cases q
    rw [hk₂ b (by rw [Heap.size_push]; exact Nat.ne_of_lt (Nat.lt_succ_of_lt (Heap.lt_size hb)))]
    exact Heap.get?_push_of_some _ (Heap.get?_push_of_some _ hb)

/-- an item past the end -/
theorem item_out' {l : Addr} {items : Array Value} {k : Int} {t : Tok} {Q : Value → Shared → Prop} (hA : Hd A s.heap) (hl : s.heap.IsList l items) (hout : (items.size : Int) ≤ k) (hlo : -(2 ^ 63) ≤ k) (hhi : k < 2 ^ 63)
    (hE : ∀ h' tk e c, Up s.heap h' → ExAt s.heap h' e false c → (A.handled = none → c = .none) → E (.ref e) { s with heap := h', toks := tk }) :
    wpAny (model prog w) A (getItem (.ref l) (.int k t)) Q E s := by
  obtain ⟨o, ho, hc, ne, hd⟩ := id hl
  unfold getItem
  try with_reducible refine wpAny_holding ?_
  first | refine wpAny_bind (wpAny_pure ?_) | skip
  refine wpAny_bind (wpAny_sequenceKey hl.typeIs (by decide) ?_)
  refine wpAny_bind (wpAny_callSpecial?_slot (name := Str.ofString "__getitem__") hl.typeIs slot_list_getitem
    (wpAny_call_entry slot_list_getitem hl.typeIs entry_list_getitem ?_ (args_list_getitem _ _)))
  show wpAny _ _ (Builtin.List.listSubscript? (.int k t) >>= _) _ _ s
  refine wpAny_bind (wpAny_listSubscript_int (fitsIndex_both hlo hhi) ?_)
  clear hlo hhi
  cases k with
  | ofNat j =>
    have hx : items[j]? = none := Array.getElem?_eq_none (by have : (items.size : Int) ≤ (j : Int) := hout; omega)
    show wpAny _ _ ((seqItemAt l j >>= fun r => pure (r.map (j, ·))) >>= _) _ _ s
    refine wpAny_bind (wpAny_bind (wpAny_seqItemAt ho hd (wpAny_pure ?_)))
    rw [hx]
    first
      | exact wpAny_bind (wpAny_rule (raise_any hA hE))
      | exact wpAny_bind (wpAny_rule (wpAny_bind (raise_any hA hE)))
      | exact wpAny_bind (wpAny_bind (wpAny_rule (raise_any hA hE)))
      | exact wpAny_rule (raise_any hA hE)
  | negSucc j => exact absurd hout (by have := Int.negSucc_lt_zero j; omega)
theorem item_out {l : Addr} {items : Array Value} {k : Nat} {t : Tok} {Q : Value → Shared → Prop} (hA : Hd A s.heap) (hl : s.heap.IsList l items) (hout : items.size ≤ k) (hk : k < 2 ^ 63)
    (hE : ∀ h' tk e c, Up s.heap h' → ExAt s.heap h' e false c → (A.handled = none → c = .none) → E (.ref e) { s with heap := h', toks := tk }) :
    wpAny (model prog w) A (getItem (.ref l) (.int (k : Int) t)) Q E s :=
  item_out' hA hl (by omega) (by omega) (by omega) hE
end
end
end Mine

-- part FL4
namespace Mine
noncomputable section
/-- a finite float that is not negative, in 2 ^ -1074 -/
def valF (x : UInt64) : Nat := match Float64.decode x with | .fin false m e => m * 2 ^ (e + 1074).toNat | _ => 0
def posF (x : UInt64) : Bool := match Float64.decode x with | .fin false _ e => decide (-1074 ≤ e) | _ => false
theorem compare_scale {a b c : Nat} (hc : 0 < c) : compare (a * c) (b * c) = compare a b := by
  rcases Nat.lt_trichotomy a b with h | h | h
  · rw [Nat.compare_eq_lt.mpr h, Nat.compare_eq_lt.mpr (Nat.mul_lt_mul_of_pos_right h hc)]
  · subst h; simp
  · rw [Nat.compare_eq_gt.mpr h, Nat.compare_eq_gt.mpr (Nat.mul_lt_mul_of_pos_right h hc)]
theorem compare_ofNat (a b : Nat) : compare (a : Int) (b : Int) = compare a b := by
  rcases Nat.lt_trichotomy a b with h | h | h
  · rw [Nat.compare_eq_lt.mpr h, Int.compare_eq_lt.mpr (by omega)]
  · subst h; simp
  · rw [Nat.compare_eq_gt.mpr h, Int.compare_eq_gt.mpr (by omega)]
theorem pow_split {e f : Int} (h0 : -1074 ≤ e) (h : e ≤ f) : 2 ^ (f + 1074).toNat = 2 ^ (f - e).toNat * 2 ^ (e + 1074).toNat := by
  rw [← Nat.pow_add]; congr 1; omega
theorem cmp_val {x y : UInt64} (hx : posF x = true) (hy : posF y = true) : Float64.cmp x y = some (compare (valF x) (valF y)) := by
  unfold posF at hx hy
  unfold Float64.cmp valF
  split at hx
  · rename_i m e h1
    split at hy
    · rename_i k f h2
      have he : -1074 ≤ e := by simpa using hx
      have hf : -1074 ≤ f := by simpa using hy
      rw [h1, h2]
      simp only [Float64.align, Float64.sgn, Bool.false_eq_true, if_false]
      rw [compare_ofNat]
      congr 1
      rcases Int.le_total e f with h | h
      · rw [Int.min_eq_left h, pow_split he h, show (e - e).toNat = 0 by omega, Nat.pow_zero, Nat.mul_one, ← Nat.mul_assoc]
        exact (compare_scale (Nat.pow_pos (by decide))).symm
      · rw [Int.min_eq_right h, pow_split hf h, show (f - f).toNat = 0 by omega, Nat.pow_zero, Nat.mul_one, ← Nat.mul_assoc]
        exact (compare_scale (Nat.pow_pos (by decide))).symm
    · cases hy
  · cases hx
/-- both parts grow from row to row -/
noncomputable def grows : Int → Nat → List (Int × UInt64) → Bool
  | _, _, [] => true
  | a, v, p :: t => decide (a < p.1) && decide (v < valF p.2) && grows p.1 (valF p.2) t
theorem grows_all : ∀ {a : Int} {v : Nat} {l : List (Int × UInt64)}, grows a v l = true → ∀ p ∈ l, a < p.1 ∧ v < valF p.2
  | a, v, p :: t, h, q, hq => by
    simp only [grows, Bool.and_eq_true, decide_eq_true_eq] at h
    rcases List.mem_cons.mp hq with rfl | hq
    · exact h.1
    · have := grows_all h.2 q hq; omega
theorem grows_cmp : ∀ {a : Int} {v : Nat} {l : List (Int × UInt64)}, grows a v l = true → ∀ p ∈ l, ∀ q ∈ l, compare (valF p.2) (valF q.2) = compare p.1 q.1
  | a, v, r :: t, h, p, hp, q, hq => by
    simp only [grows, Bool.and_eq_true, decide_eq_true_eq] at h
    rcases List.mem_cons.mp hp with rfl | hp' <;> rcases List.mem_cons.mp hq with rfl | hq'
    · simp
    · have := grows_all h.2 q hq'
      rw [Nat.compare_eq_lt.mpr this.2, Int.compare_eq_lt.mpr this.1]
    · have := grows_all h.2 p hp'
      rw [Nat.compare_eq_gt.mpr this.2, Int.compare_eq_gt.mpr this.1]
    · exact grows_cmp h.2 p hp' q hq'
theorem pos_tab : (hueTab.all fun p => posF p.2) = true := by decide +kernel
theorem grows_tab : (match hueTab with | [] => true | p :: t => decide (p.1 = 0) && decide (valF p.2 = 0) && grows p.1 (valF p.2) t) = true := by decide +kernel
theorem cmp_hues : ∀ p ∈ hueTab, ∀ q ∈ hueTab, compare (valF p.2) (valF q.2) = compare p.1 q.1 := by
  have h := grows_tab
  generalize hueTab = l at h
  cases l with
  | nil => intro p hp; cases hp
  | cons r t =>
    simp only [Bool.and_eq_true] at h
    intro p hp q hq
    rcases List.mem_cons.mp hp with rfl | hp' <;> rcases List.mem_cons.mp hq with rfl | hq'
    · simp
    · have := grows_all h.2 q hq'
      rw [Nat.compare_eq_lt.mpr this.2, Int.compare_eq_lt.mpr this.1]
    · have := grows_all h.2 p hp'
      rw [Nat.compare_eq_gt.mpr this.2, Int.compare_eq_gt.mpr this.1]
    · exact grows_cmp h.2 p hp' q hq'
theorem cmp_all : (hueTab.all fun p => hueTab.all fun q => Float64.cmp p.2 q.2 == some (compare p.1 q.1)) = true := by
  refine List.all_eq_true.mpr fun p hp => List.all_eq_true.mpr fun q hq => ?_
  rw [cmp_val (List.all_eq_true.mp pos_tab p hp) (List.all_eq_true.mp pos_tab q hq), cmp_hues p hp q hq]
  simp
end
end Mine

-- part X2
namespace Mine
noncomputable section

def lob (ys : Array Value) (n : Nat) : Obj := { cls := .type "list", data := .seq ys n }

/-- what stays fixed in the frame -/
structure Fx (s₀ : Shared) (env : Env) (outer : List Env) (L Me Un : Addr) : Prop where
  hf : env.frame = some L
  hloc : env.locals = L
  hk : env.scope.kind = .function
  l0 : s₀.heap.get? L = none
  m0 : s₀.heap.get? Me = none
  u0 : s₀.heap.get? Un = none
  ml : Me ≠ L
  ul : Un ≠ L
  mu : Me ≠ Un
  ff : ∃ B, B.get? L = none ∧ s₀.heap.FunFrames B outer

def frs (env : Env) (outer : List Env) : List Addr := (env :: outer).filterMap (·.frame)

namespace Fx
variable {s₀ : Shared} {env : Env} {outer : List Env} {L Me Un : Addr}
theorem alive (X : Fx s₀ env outer L Me Un) {b : Addr} (h : b ∈ frs env outer) : b = L ∨ ∃ o, s₀.heap.get? b = some o ∧ ∀ vs, o.data ≠ .fields vs := by
  obtain ⟨B, _, ff⟩ := X.ff
  simp only [frs, List.filterMap_cons, X.hf] at h
  rcases List.mem_cons.mp h with rfl | h
  · exact .inl rfl
  · exact .inr (ff.mem h).2
theorem nofr (X : Fx s₀ env outer L Me Un) {b : Addr} (h0 : s₀.heap.get? b = none) (hl : b ≠ L) : b ∉ frs env outer := fun h => by
  rcases X.alive h with q | ⟨o, q, _⟩
  · exact hl q
  · rw [h0] at q; cases q
theorem lfr (X : Fx s₀ env outer L Me Un) : L ∈ frs env outer := by
  simp only [frs, List.filterMap_cons, X.hf]; exact List.mem_cons_self
end Fx

structure Sx (s₀ : Shared) (fr : List Addr) (L Me Un : Addr) (m : Str → Option Value) (oM oU : Obj) (s : Shared) : Prop where
  sm : ∃ h' tk, s = { s₀ with heap := h', toks := tk }
  old : ∀ b o, b ∉ fr → s₀.heap.get? b = some o → s.heap.get? b = some o
  up : s₀.heap.UpToSlots s.heap
  ns : s.heap.Ns L m
  me : s.heap.get? Me = some oM
  un : s.heap.get? Un = some oU

namespace Sx
variable {s₀ s s' : Shared} {env : Env} {outer : List Env} {fr : List Addr} {L Me Un : Addr} {m : Str → Option Value} {oM oU : Obj}
theorem ff (X : Fx s₀ env outer L Me Un) (S : Sx s₀ fr L Me Un m oM oU s) : ∃ B, s.heap.FunFrames B (env :: outer) := by
  obtain ⟨B, hB, ff⟩ := X.ff
  refine ⟨B, .cons (by rw [X.hk]; decide) X.hf S.ns hB (ff.of_keeps fun b o h1 h2 => ?_)⟩
  obtain ⟨sl, h3⟩ := S.up b o h1 h2
  exact ⟨_, h3, rfl⟩
theorem lobj (S : Sx s₀ fr L Me Un m oM oU s) : ∀ o, s.heap.get? L = some o → ∀ vs, o.data ≠ .fields vs := fun o h vs q => by
  obtain ⟨o', es, ep, h', hd, _⟩ := S.ns
  rw [h] at h'; cases h'; rw [hd] at q; cases q
theorem kp (S : Sx s₀ fr L Me Un m oM oU s) (k : Keeps s s') : Sx s₀ fr L Me Un m oM oU s' := by
  obtain ⟨h1, t1, rfl⟩ := S.sm
  obtain ⟨h2, t2, rfl, u⟩ := k
  exact ⟨⟨h2, t2, rfl⟩, fun b o e1 e2 => u _ _ (S.old b o e1 e2), S.up.trans (.of_keeps u), S.ns.keeps u, u _ _ S.me, u _ _ S.un⟩
theorem tok (S : Sx s₀ fr L Me Un m oM oU s) (t : Nat) : Sx s₀ fr L Me Un m oM oU { s with toks := t } := S.kp (ktok s t)
theorem lst {a : Addr} {its : Array Value} (S : Sx s₀ fr L Me Un m oM oU s) (x : s₀.heap.IsList a its) : s.heap.IsList a its := by
  obtain ⟨o, h1, h2, n, h3⟩ := x
  obtain ⟨sl, h4⟩ := S.up a o h1 (fun vs q => by rw [h3] at q; cases q)
  exact ⟨_, h4, h2, n, h3⟩
theorem set {m' : Str → Option Value} {h' : Heap} (X : Fx s₀ env outer L Me Un) (S : Sx s₀ (frs env outer) L Me Un m oM oU s) (hn : h'.Ns L m') (hs : Heap.SameBut L s.heap h') : Sx s₀ (frs env outer) L Me Un m' oM oU { s with heap := h' } := by
  obtain ⟨h1, t1, rfl⟩ := S.sm
  refine ⟨⟨h', t1, rfl⟩, fun b o e1 e2 => hs.extBut b o (fun q => e1 (q ▸ X.lfr)) (S.old b o e1 e2), fun b o e1 e2 => ?_, hn, hs.extBut _ _ X.ml S.me, hs.extBut _ _ X.ul S.un⟩
  obtain ⟨sl, e3⟩ := S.up b o e1 e2
  exact ⟨sl, hs.extBut _ _ (fun q => by rw [q, X.l0] at e1; cases e1) e3⟩
theorem putM {o' : Obj} {h' : Heap} (X : Fx s₀ env outer L Me Un) (S : Sx s₀ (frs env outer) L Me Un m oM oU s) (ho : h'.get? Me = some o') (hs : Heap.SameBut Me s.heap h') : Sx s₀ (frs env outer) L Me Un m o' oU { s with heap := h' } := by
  obtain ⟨h1, t1, rfl⟩ := S.sm
  have ne : ∀ b o, s₀.heap.get? b = some o → b ≠ Me := fun b o e q => by rw [q, X.m0] at e; cases e
  refine ⟨⟨h', t1, rfl⟩, fun b o e1 e2 => hs.extBut b o (ne _ _ e2) (S.old b o e1 e2), fun b o e1 e2 => ?_, S.ns.sameBut hs (Ne.symm X.ml), ho, hs.extBut _ _ (Ne.symm X.mu) S.un⟩
  obtain ⟨sl, e3⟩ := S.up b o e1 e2
  exact ⟨sl, hs.extBut _ _ (ne _ _ e1) e3⟩
theorem putU {o' : Obj} {h' : Heap} (X : Fx s₀ env outer L Me Un) (S : Sx s₀ (frs env outer) L Me Un m oM oU s) (ho : h'.get? Un = some o') (hs : Heap.SameBut Un s.heap h') : Sx s₀ (frs env outer) L Me Un m oM o' { s with heap := h' } := by
  obtain ⟨h1, t1, rfl⟩ := S.sm
  have ne : ∀ b o, s₀.heap.get? b = some o → b ≠ Un := fun b o e q => by rw [q, X.u0] at e; cases e
  refine ⟨⟨h', t1, rfl⟩, fun b o e1 e2 => hs.extBut b o (ne _ _ e2) (S.old b o e1 e2), fun b o e1 e2 => ?_, S.ns.sameBut hs (Ne.symm X.ul), hs.extBut _ _ X.mu S.me, ho⟩
  obtain ⟨sl, e3⟩ := S.up b o e1 e2
  exact ⟨sl, hs.extBut _ _ (ne _ _ e1) e3⟩
end Sx

/-- an exception on its way -/
structure Ex (s₀ : Shared) (fr : List Addr) (Me Un : Addr) (oM oU : Obj) (tb : Bool) (e : Addr) (c : Value) (g : Heap) (s : Shared) : Prop where
  at' : ExAt g s.heap e tb c
  all : ∀ b o, b ∉ fr → g.get? b = some o → s.heap.get? b = some o
  old : ∀ b o, b ∉ fr → s₀.heap.get? b = some o → g.get? b = some o
  me : g.get? Me = some oM
  un : g.get? Un = some oU

section
variable {M : Model} {A : Around} {E : Value → Shared → Prop} {s₀ s : Shared} {env : Env} {outer : List Env} {L Me Un : Addr} {m : Str → Option Value} {oM oU : Obj} {tb : Bool} {e : Addr} {c : Value} {g : Heap}

theorem Sx.chg {h' : Heap} (X : Fx s₀ env outer L Me Un) (S : Sx s₀ (frs env outer) L Me Un m oM oU s) (x : Ex s₀ (frs env outer) Me Un oM oU tb e c g s) (k : Chg g (frs env outer) s.heap h') : Sx s₀ (frs env outer) L Me Un m oM oU { s with heap := h' } := by
  obtain ⟨h1, t1, rfl⟩ := S.sm
  exact ⟨⟨h', t1, rfl⟩, fun b o e1 e2 => k.old b o (x.old b o e1 e2) e1 (S.old b o e1 e2), S.up.trans k.up, k.up.ns S.ns, k.old _ _ x.me (X.nofr X.m0 X.ml) S.me, k.old _ _ x.un (X.nofr X.u0 X.ul) S.un⟩
theorem Ex.chg {h' : Heap} {tb' : Bool} (x : Ex s₀ (frs env outer) Me Un oM oU tb e c g s) (k : Chg g (frs env outer) s.heap h') (y : ExAt g h' e tb' c) : Ex s₀ (frs env outer) Me Un oM oU tb' e c g { s with heap := h' } :=
  ⟨y, fun b o e1 e2 => k.old b o e2 e1 (x.all b o e1 e2), x.old, x.me, x.un⟩
theorem Ex.set {h' : Heap} (X : Fx s₀ env outer L Me Un) (S : Sx s₀ (frs env outer) L Me Un m oM oU s) (x : Ex s₀ (frs env outer) Me Un oM oU tb e c g s) (k : ∀ b o, b ≠ L → s.heap.get? b = some o → h'.get? b = some o) {tk : Nat} : Ex s₀ (frs env outer) Me Un oM oU tb e c g { s with heap := h', toks := tk } :=
  ⟨x.at'.keep S.lobj k, fun b o e1 e2 => k b o (fun q => e1 (q ▸ X.lfr)) (x.all b o e1 e2), x.old, x.me, x.un⟩
theorem Ex.none (X : Fx s₀ env outer L Me Un) (S : Sx s₀ (frs env outer) L Me Un m oM oU s) (x : Ex s₀ (frs env outer) Me Un oM oU tb e c g s) : ∀ b, s.heap.get? b = none → g.get? b = none := fun b hb => by
  cases q : g.get? b with
  | none => rfl
  | some o =>
    by_cases hf : b ∈ frs env outer
    · obtain ⟨B, ff⟩ := S.ff X
      obtain ⟨_, o', ho, _⟩ := ff.mem hf
      rw [hb] at ho; cases ho
    · rw [x.all b o hf q] at hb; cases hb

theorem ex_note (X : Fx s₀ env outer L Me Un) (hfr : A.frames = some (env :: outer)) (S : Sx s₀ (frs env outer) L Me Un m oM oU s) (x : Ex s₀ (frs env outer) Me Un oM oU tb e c g s) {Q : Unit → Shared → Prop}
    (h : ∀ s', Sx s₀ (frs env outer) L Me Un m oM oU s' → Ex s₀ (frs env outer) Me Un oM oU true e c g s' → Q () s') : wpAny M A (noteFrame (.ref e) env) Q E s := by
  obtain ⟨B, ff⟩ := S.ff X
  exact note_ex hfr ff X.hf (x.none X S) x.at' fun h' y k => h _ (S.chg X x k) (x.chg k y)
theorem ex_noted (X : Fx s₀ env outer L Me Un) (hfr : A.frames = some (env :: outer)) (S : Sx s₀ (frs env outer) L Me Un m oM oU s) (x : Ex s₀ (frs env outer) Me Un oM oU tb e c g s)
    (h : ∀ s', Sx s₀ (frs env outer) L Me Un m oM oU s' → Ex s₀ (frs env outer) Me Un oM oU true e c g s' → E (.ref e) s') : notedBy M A env E (.ref e) s := ex_note X hfr S x h
theorem ex_back (X : Fx s₀ env outer L Me Un) (S : Sx s₀ (frs env outer) L Me Un m oM oU s) (x : Ex s₀ (frs env outer) Me Un oM oU true e c g s)
    (h : ∀ s', Sx s₀ (frs env outer) L Me Un m oM oU s' → Ex s₀ (frs env outer) Me Un oM oU true e c g s' → E (.ref e) s') : cameBackBy M A env E (.ref e) s :=
  back_ex x.at' fun h' y k => h _ (S.chg X x k) (x.chg k y)
theorem ex_flight (X : Fx s₀ env outer L Me Un) (S : Sx s₀ (frs env outer) L Me Un m oM oU s) (x : Ex s₀ (frs env outer) Me Un oM oU true e c g s) {fl : Option Addr} {Q : Unit → Shared → Prop}
    (h : ∀ s', Sx s₀ (frs env outer) L Me Un m oM oU s' → Ex s₀ (frs env outer) Me Un oM oU true e c g s' → Q () s') : wpAny M A (setFlight (.ref e) fl) Q E s :=
  flight_ex x.at' fun h' y k => h _ (S.chg X x k) (x.chg k y)
theorem ex_pass {α : Type} {what : String} (X : Fx s₀ env outer L Me Un) (S : Sx s₀ (frs env outer) L Me Un m oM oU s) (x : Ex s₀ (frs env outer) Me Un oM oU true e c g s) {Q : α → Shared → Prop}
    (h : ∀ s', Sx s₀ (frs env outer) L Me Un m oM oU s' → Ex s₀ (frs env outer) Me Un oM oU true e c g s' → E (.ref e) s') : wpAny M A (PySem.passOn what (.ref e) env : Sem α) Q E s :=
  passOn_ex x.at' fun h' y k => h _ (S.chg X x k) (x.chg k y)
theorem stX {x : Str} {v : Value} {Q : Unit → Shared → Prop} (X : Fx s₀ env outer L Me Un) (S : Sx s₀ (frs env outer) L Me Un m oM oU s)
    (h : ∀ h' tk, Sx s₀ (frs env outer) L Me Un (fun y => if y = x then some v else m y) oM oU { s with heap := h', toks := tk } → (∀ b o, b ≠ L → s.heap.get? b = some o → h'.get? b = some o) → Q () { s with heap := h', toks := tk })
    (hl : env.kindOf x = some .local) : wpAny M A (storeName env x v) Q E s := by
  refine wpAny_storeName_local hl (by rw [X.hloc]; exact S.ns) (fun h' hn hs => h h' _ ?_ ?_) (by simp [X.hk])
  · rw [X.hloc] at hn hs; exact (S.set X hn hs).tok _
  · rw [X.hloc] at hs; exact hs.extBut
theorem ldX {x : Str} {pos : Pos} {v : Value} {Q : Value → Shared → Prop} (X : Fx s₀ env outer L Me Un) (S : Sx s₀ (frs env outer) L Me Un m oM oU s) (hv : m x = some v) (h : Q v s)
    (hl : env.kindOf x = some .local) (hd : (x == ("__debug__" : Str)) = false) : wpAny M A (eval (.Name x pos) env) Q E s :=
  ldLoc (by rw [X.hloc]; exact S.ns) hv h X.hk hl hd
end

/-! the places' floats -/
def FlP (p : Int) (v : Value) : Prop := ∃ t, v = .float (F p) t
def Flts (ps : List Int) (its : Array Value) : Prop := Paired FlP ps its.toList
theorem Paired.at {α β : Type} {G : α → β → Prop} : ∀ {l : List α} {k : List β}, Paired G l k → ∀ {i : Nat} {a : α}, l[i]? = some a → ∃ b, k[i]? = some b ∧ G a b
  | _, _, .nil, i, a, h => by simp at h
  | _, _, .cons (b := b) g t, 0, a, h => ⟨b, rfl, by simp at h; subst h; exact g⟩
  | _, _, .cons g t, i + 1, a, h => by simpa using Paired.at t (by simpa using h)
theorem Flts.at {ps : List Int} {its : Array Value} (h : Flts ps its) {i : Nat} {p : Int} (hp : ps[i]? = some p) : ∃ t, its[i]? = some (.float (F p) t) := by
  obtain ⟨v, h1, t, rfl⟩ := Paired.at h hp
  exact ⟨t, by simpa using h1⟩
theorem Flts.size {ps : List Int} {its : Array Value} (h : Flts ps its) : its.size = ps.length := by simpa using (Paired.length h).symm

theorem place_tab {p : Int} (h : isPlace p = true) : ∃ u, (p, u) ∈ hueTab ∧ F p = u := by
  unfold isPlace ps at h
  rw [List.contains_iff_mem] at h
  have : ∀ l : List (Int × UInt64), p ∈ l.map (·.1) → ∃ u, (p, u) ∈ l ∧ (l.lookup p).getD 0 = u := by
    intro l
    induction l with
    | nil => intro h; simp at h
    | cons a l ih =>
      intro h
      obtain ⟨q, v⟩ := a
      by_cases e : p = q
      · subst e; exact ⟨v, List.mem_cons_self, by simp [List.lookup]⟩
      · have h' : p ∈ l.map (·.1) := by
          rcases List.mem_cons.mp h with h | h
          · exact absurd h e
          · exact h
        obtain ⟨u, h1, h2⟩ := ih h'
        exact ⟨u, List.mem_cons_of_mem _ h1, by rw [List.lookup, show (p == q) = false from by simpa using e]; exact h2⟩
  exact this _ h
theorem cmpF {p q : Int} (hp : isPlace p = true) (hq : isPlace q = true) : Float64.cmp (F p) (F q) = some (compare p q) := by
  obtain ⟨u, h1, rfl⟩ := place_tab hp
  obtain ⟨v, h2, rfl⟩ := place_tab hq
  have := List.all_eq_true.mp cmp_all _ h1
  have := List.all_eq_true.mp this _ h2
  simpa using this
theorem eqF {p q : Int} (hp : isPlace p = true) (hq : isPlace q = true) : feq (F p) (F q) = (p == q) := by
  unfold feq; rw [cmpF hp hq]
  rcases Int.lt_trichotomy p q with h | h | h
  · rw [Int.compare_eq_lt.mpr h]; have : (p == q) = false := by simp; omega
    rw [this]; rfl
  · subst h; simp
  · rw [Int.compare_eq_gt.mpr h]; have : (p == q) = false := by simp; omega
    rw [this]; rfl
theorem ltF {p q : Int} (hp : isPlace p = true) (hq : isPlace q = true) : flt (F p) (F q) = decide (p < q) := by
  unfold flt; rw [cmpF hp hq]
  rcases Int.lt_trichotomy p q with h | h | h
  · rw [Int.compare_eq_lt.mpr h]; simp [h]
  · subst h; simp
  · rw [Int.compare_eq_gt.mpr h]; simp; omega
theorem gtF {p q : Int} (hp : isPlace p = true) (hq : isPlace q = true) : fgt (F p) (F q) = decide (q < p) := by
  unfold fgt; rw [cmpF hp hq]
  rcases Int.lt_trichotomy p q with h | h | h
  · rw [Int.compare_eq_lt.mpr h]; simp; omega
  · subst h; simp
  · rw [Int.compare_eq_gt.mpr h]; simp [h]
end
end Mine

-- part X3
namespace Mine
noncomputable section

def skip (ps : List Int) (p : Int) (k : Nat) : Nat := k + ((ps.drop k).takeWhile (· == p)).length
theorem skip_le {ps : List Int} {p : Int} {k : Nat} (h : k ≤ ps.length) : skip ps p k ≤ ps.length := by
  unfold skip
  have := (List.takeWhile_prefix (· == p) (l := ps.drop k)).length_le
  simp at this; omega
theorem skip_end {ps : List Int} {p : Int} : skip ps p ps.length = ps.length := by simp [skip]
theorem skip_ne {ps : List Int} {p q : Int} {k : Nat} (h : ps[k]? = some q) (hq : q ≠ p) : skip ps p k = k := by
  obtain ⟨hk, e⟩ := List.getElem?_eq_some_iff.mp h
  unfold skip
  rw [List.drop_eq_getElem_cons hk, e, List.takeWhile_cons, if_neg (by simpa using hq)]; rfl
theorem skip_eq {ps : List Int} {p : Int} {k : Nat} (h : ps[k]? = some p) : skip ps p k = skip ps p (k + 1) := by
  obtain ⟨hk, e⟩ := List.getElem?_eq_some_iff.mp h
  unfold skip
  rw [List.drop_eq_getElem_cons hk, e, List.takeWhile_cons, if_pos (by simp)]; simp; omega

section
variable {prog : Program} {w : World} {A : Around} {E : Value → Shared → Prop} {s₀ s : Shared} {env : Env} {outer : List Env} {L Me Un : Addr} {m : Str → Option Value} {oM oU : Obj}

theorem incX {x : Str} {pos' pos p2 : Pos} {kk} {k : Nat} {t : Tok} {Q : Flow → Shared → Prop} (X : Fx s₀ env outer L Me Un) (S : Sx s₀ (frs env outer) L Me Un m oM oU s)
    (hv : m x = some (.int k t)) (hl : env.kindOf x = some .local)
    (h : ∀ h' tk t', Sx s₀ (frs env outer) L Me Un (fun y => if y = x then some (.int ((k + 1 : Nat) : Int) t') else m y) oM oU { s with heap := h', toks := tk } → (∀ b o, b ≠ L → s.heap.get? b = some o → h'.get? b = some o) → Q .next { s with heap := h', toks := tk }) :
    wpAny (model prog w) A (exec (.AugAssign (.Name x pos') .Add (.Constant (.int 1) kk p2) pos) env) Q E s := by
  refine wpAny_AugAssign_Name (wpAny_loadName_local X.hk hl (by rw [X.hloc]; exact S.ns) hv (wpAny_Constant_int (AutoIntOps.iadd_0 ?_)))
  exact stX X ((S.tok _).tok _) (fun h' tk S' k' => h h' tk _ S' k') hl

theorem skip_loop {xn inn en : Str} {p1 p2 p3 p4 p5 p6 p7 p8 p9 : Pos} {kk} {ea : Addr} {its : Array Value} {qs : List Int} {p : Int} {k : Nat} {ti te : Tok} {J : Heap → Prop} {Q : Flow → Shared → Prop}
    (X : Fx s₀ env outer L Me Un) (hfr : A.frames = some (env :: outer)) (S : Sx s₀ (frs env outer) L Me Un m oM oU s)
    (hJ : ∀ h h', J h → (∀ o, h.get? L = some o → ∀ vs, o.data ≠ .fields vs) → (∀ b o, b ≠ L → h.get? b = some o → h'.get? b = some o) → J h') (hJ0 : J s.heap) (hHd : ∀ h, J h → Hd A h)
    (hxl : env.kindOf xn = some .local) (hil : env.kindOf inn = some .local) (hel : env.kindOf en = some .local)
    (hxd : (xn == ("__debug__" : Str)) = false) (hid : (inn == ("__debug__" : Str)) = false) (hed : (en == ("__debug__" : Str)) = false) (hix : xn ≠ inn) (hie : en ≠ inn)
    (hl : s₀.heap.IsList ea its) (hf : Flts qs its) (hpl : ∀ q ∈ qs, isPlace q = true) (hp : isPlace p = true) (hlen : qs.length ≤ 1000) (hk : k ≤ qs.length)
    (hx : m xn = some (.ref ea)) (hi : m inn = some (.int k ti)) (he : m en = some (.float (F p) te))
    (hQ : ∀ s' m' t', Sx s₀ (frs env outer) L Me Un m' oM oU s' → J s'.heap → m' inn = some (.int (skip qs p k : Nat) t') → (∀ y, y ≠ inn → m' y = m y) → skip qs p k < qs.length → Q .next s')
    (hE : ∀ s' m' t' e c g, Sx s₀ (frs env outer) L Me Un m' oM oU s' → Ex s₀ (frs env outer) Me Un oM oU true e c g s' → (A.handled = none → c = .none) → m' inn = some (.int (skip qs p k : Nat) t') → (∀ y, y ≠ inn → m' y = m y) → skip qs p k = qs.length → E (.ref e) s') :
    wpAny (model prog w) A (exec (.While (.Compare (.Subscript (.Name xn p1) (.Name inn p2) p3) [.Eq] [.Name en p4] p5) [.AugAssign (.Name inn p6) .Add (.Constant (.int 1) kk p7) p8] [] p9) env) Q E s := by
  refine wpAny_While (codeAny_whileLoop (fun n s' => ∃ (i : Nat) (m' : Str → Option Value) (t' : Tok), n = qs.length - i ∧ i ≤ qs.length ∧ skip qs p i = skip qs p k ∧ Sx s₀ (frs env outer) L Me Un m' oM oU s' ∧ J s'.heap ∧ m' inn = some (.int i t') ∧ (∀ y, y ≠ inn → m' y = m y)) ?_ (qs.length - k) ⟨k, m, ti, rfl, hk, rfl, S, hJ0, hi, fun _ _ => rfl⟩)
  rintro n s' ⟨i, m', t', rfl, hle, hsk, S', hJ', hi', hm'⟩
  have hsz := hf.size
  refine wpAny_isTrue_Compare1 (Subscript_ (ldX X S' ((hm' _ hix).trans hx) (ldX X S' hi' ?_ hil hid) hxl hxd))
  by_cases hlt : i < qs.length
  · have hq : qs[i]? = some qs[i] := List.getElem?_eq_getElem hlt
    have hqp : isPlace qs[i] = true := hpl _ (List.getElem_mem hlt)
    obtain ⟨tq, hv⟩ := hf.at hq
    refine item_list (S'.lst hl) (by omega) (by omega) (by simpa using hv) ?_
    refine ldX X S' ((hm' _ hie).trans he) (AutoFloatOps.eq_0 (wpAny_truthy_bool ?_)) hel hed
    show if (feq (F qs[i]) (F p)) = true then _ else _
    rw [eqF hqp hp]
    by_cases hqe : qs[i] = p
    · rw [if_pos (by simpa using hqe)]
      refine wpAny_execs_cons (incX X S' hi' hil fun h' tk t'' S'' k' => wpAny_execs_nil ?_)
      refine ⟨qs.length - (i + 1), by omega, i + 1, _, t'', rfl, hlt, ?_, S'', hJ _ _ hJ' S'.lobj k', by simp, fun y hy => by simp [hy]; exact hm' y hy⟩
      rw [← skip_eq (hqe ▸ hq)]; exact hsk
    · rw [if_neg (by simpa using hqe)]
      refine wpAny_execs_nil ?_
      have e := skip_ne hq hqe
      rw [hsk] at e
      refine hQ s' m' t' S' hJ' (by rw [e]; exact hi') hm' (by rw [e]; exact hlt)
  · have hie' : i = qs.length := by omega
    subst hie'
    rw [skip_end] at hsk
    refine subscriptTail_builtin (S'.lst hl).typeIs slot_list_getitem.lookup (item_out (hHd _ hJ') (S'.lst hl) (by omega) (by omega) fun h' tk e c hu hx hc => ?_)
    have S'' := S'.kp (kmk (s := s') (t := tk) hu)
    have x : Ex s₀ (frs env outer) Me Un oM oU false e c s'.heap { s' with heap := h', toks := tk } := ⟨hx, fun b o _ e => hu _ _ e, S'.old, S'.me, S'.un⟩
    refine ex_noted X hfr S'' x fun s₂ S₂ x₂ => ?_
    refine ex_back X S₂ x₂ fun s₃ S₃ x₃ => ?_
    exact hE s₃ m' t' e c s'.heap S₃ x₃ hc (by rw [← hsk]; exact hi') hm' hsk.symm
end
end
end Mine

-- part X4
namespace Mine
noncomputable section

theorem Paired.drop {α β : Type} {G : α → β → Prop} : ∀ {l : List α} {k : List β}, Paired G l k → ∀ n, Paired G (l.drop n) (k.drop n)
  | _, _, h, 0 => h
  | _, _, .nil, _ + 1 => .nil
  | _, _, .cons _ t, n + 1 => Paired.drop t n
theorem Paired.append {α β : Type} {G : α → β → Prop} : ∀ {l : List α} {k : List β} {l' : List α} {k' : List β}, Paired G l k → Paired G l' k' → Paired G (l ++ l') (k ++ k')
  | _, _, _, _, .nil, h => h
  | _, _, _, _, .cons g t, h => .cons g (Paired.append t h)

def MCall (env : Env) (nm meth : Str) (p1 p2 p4 : Pos) (args : List Expr) (pl : Sem Bool) : Prop :=
  eval (.Call (.Attribute (.Name nm p1) meth p2) args [] p4) env = (do
      let ov ← eval (.Name nm p1) env
      standAt p2.atName
      let (f, first) ← holding [ov] (getMethod ov meth pl)
      callWith p4 f first (backTo p4 (starEach args env)) [])

section
variable {prog : Program} {w : World} {A : Around} {E : Value → Shared → Prop} {s₀ s : Shared} {env : Env} {outer : List Env} {L Me Un : Addr} {m : Str → Option Value} {oM oU : Obj} {mg mb : Str → Option Value}

theorem app1 {pl : Sem Bool} {nm en : Str} {p1 p2 p3 p4 : Pos} {a : Addr} {ys : Array Value} {n : Nat} {v : Value} {Q : Value → Shared → Prop} (X : Fx s₀ env outer L Me Un) (S : Sx s₀ (frs env outer) L Me Un m oM oU s)
    (ha : s.heap.get? a = some (lob ys n)) (hn : m nm = some (.ref a)) (he : m en = some v) (hnl : env.kindOf nm = some .local) (hel : env.kindOf en = some .local)
    (hnd : (nm == ("__debug__" : Str)) = false) (hed : (en == ("__debug__" : Str)) = false) (hsz : ys.size ≤ 1000)
    (h : ∀ h', Heap.SameBut a s.heap h' → h'.get? a = some (lob (ys.push v) (n + 1)) → Q .none { s with heap := h' })
    (hc : MCall env nm "append" p1 p2 p4 [.Name en p3] pl) :
    wpAny (model prog w) A (eval (.Call (.Attribute (.Name nm p1) "append" p2) [.Name en p3] [] p4) env) Q E s := by
  refine MethodCall_ (ldX X S hn (Calls.getMethod_list_append ha rfl rfl (callWith_method1 (args_cons (ldX X S he (args_nil ?_) hel hed)))) hnl hnd) hc
  exact append_at (hsz := by have := sizeLine_eq; omega) ha h

theorem ext1 {pl : Sem Bool} {nm xn inn : Str} {p1 p2 p3 p4 p5 p6 p7 : Pos} {a ea : Addr} {ys its : Array Value} {n k : Nat} {t : Tok} {Q : Value → Shared → Prop} (X : Fx s₀ env outer L Me Un) (S : Sx s₀ (frs env outer) L Me Un m oM oU s)
    (ha : s.heap.get? a = some (lob ys n)) (hl : s₀.heap.IsList ea its) (hn : m nm = some (.ref a)) (hx : m xn = some (.ref ea)) (hi : m inn = some (.int (k : Int) t))
    (hnl : env.kindOf nm = some .local) (hxl : env.kindOf xn = some .local) (hil : env.kindOf inn = some .local)
    (hnd : (nm == ("__debug__" : Str)) = false) (hxd : (xn == ("__debug__" : Str)) = false) (hid : (inn == ("__debug__" : Str)) = false) (hsz : ys.size ≤ 1000) (hsz2 : its.size ≤ 1000)
    (h : ∀ s₁ h' n', Keeps s s₁ → Heap.SameBut a s₁.heap h' → h'.get? a = some (lob (ys ++ (its.toList.drop k).toArray) n') → Q .none { s₁ with heap := h' })
    (hc : MCall env nm "extend" p1 p2 p7 [.Subscript (.Name xn p3) (.Slice (some (.Name inn p4)) none none p5) p6] pl) :
    wpAny (model prog w) A (eval (.Call (.Attribute (.Name nm p1) "extend" p2) [.Subscript (.Name xn p3) (.Slice (some (.Name inn p4)) none none p5) p6] [] p7) env) Q E s := by
  have hle := sizeLine_eq
  have hl' := S.lst hl
  refine MethodCall_ (ldX X S hn (getMethod_builtin (s := s) (T := "list") ⟨_, ha, rfl⟩ PySem.F.plainAttrs_list PySem.F.slot_list_extend PySem.F.type_list_extend ?_ (callWith_method1 (args_cons ?_))) hnl hnd) hc
  · intro b e; cases e; exact ⟨_, ha, rfl⟩
  refine Subscript_ (ldX X S hx (wpAny_Slice (wpAny_evalPart_some (ldX X S hi (wpAny_evalPart_none (wpAny_evalPart_none ?_)) hil hid))) hxl hxd)
  refine subscriptTail_ops (Heap.IsList.typeIs (s := { s with heap := s.heap.push { cls := .type "slice", data := .fields #[.int (k : Int) t, .none, .none] } }) (hl'.push _)) list_getitem_lookup
    (wpAny_getItem_list_slice (hl'.push _) (Heap.IsSliceOf.new ..) (.int _ _) .none .none (by simp) ?_ (by omega)) (by with_unfolding_all rfl) (by intro _; with_unfolding_all rfl)
  rw [slicePick_from']
  refine args_nil ?_
  have ha' : ((s.heap.push { cls := .type "slice", data := .fields #[.int (k : Int) t, .none, .none] }).push { cls := .type "list", data := .seq (its.toList.drop k).toArray }).get? a = some (lob ys n) := Heap.get?_push_of_some _ (Heap.get?_push_of_some _ ha)
  have hsz' : ys.size + (its.toList.drop k).toArray.size ≤ sizeLine := by simp; omega
  refine call_meets PySem.F.slot_list_extend ⟨_, ha', rfl⟩ PySem.F.entry_list_extend (PySem.F.args_list_extend_2 _ _) (AutoSeq1.list_extend_list_list_0 a ys n _ (its.toList.drop k).toArray 0 (extend_door hsz') (by omega) (by omega)) ⟨ha', Heap.get?_push_size _ rfl, ?_⟩
  refine h _ _ (if (ys ++ (its.toList.drop k).toArray).size == ys.size then n else n + 1) ((kpush _ _) |> fun x => ktrans x (kpush _ _)) (Heap.SameBut.update ..) ?_
  rw [Heap.get?_update_self _ ha' (by rw [lob, mapSeq_app]; rfl), lob, mapSeq_app]; rfl

def six : List Str := ["expected", "actual", "missing", "unexpected", "i", "j"]
structure Fa (m : Str → Option Value) (ea aa Me Un : Addr) (i j : Nat) : Prop where
  ex : m "expected" = some (.ref ea)
  ac : m "actual" = some (.ref aa)
  mi : m "missing" = some (.ref Me)
  un : m "unexpected" = some (.ref Un)
  i : ∃ t, m "i" = some (.int i t)
  j : ∃ t, m "j" = some (.int j t)
theorem Fa.mono {m m' : Str → Option Value} {ea aa Me Un : Addr} {i j : Nat} (f : Fa m ea aa Me Un i j) (h : ∀ y ∈ six, m' y = m y) : Fa m' ea aa Me Un i j :=
  ⟨(h _ (by simp [six])).trans f.ex, (h _ (by simp [six])).trans f.ac, (h _ (by simp [six])).trans f.mi, (h _ (by simp [six])).trans f.un, let ⟨t, e⟩ := f.i; ⟨t, (h _ (by simp [six])).trans e⟩, let ⟨t, e⟩ := f.j; ⟨t, (h _ (by simp [six])).trans e⟩⟩
theorem Fa.setI {m m' : Str → Option Value} {ea aa Me Un : Addr} {i j i' : Nat} {t : Tok} (f : Fa m ea aa Me Un i j) (h1 : m' "i" = some (.int i' t)) (h : ∀ y : Str, y ≠ "i" → m' y = m y) : Fa m' ea aa Me Un i' j :=
  ⟨(h _ (by decide)).trans f.ex, (h _ (by decide)).trans f.ac, (h _ (by decide)).trans f.mi, (h _ (by decide)).trans f.un, ⟨t, h1⟩, let ⟨t, e⟩ := f.j; ⟨t, (h _ (by decide)).trans e⟩⟩
theorem Fa.setJ {m m' : Str → Option Value} {ea aa Me Un : Addr} {i j j' : Nat} {t : Tok} (f : Fa m ea aa Me Un i j) (h1 : m' "j" = some (.int j' t)) (h : ∀ y : Str, y ≠ "j" → m' y = m y) : Fa m' ea aa Me Un i j' :=
  ⟨(h _ (by decide)).trans f.ex, (h _ (by decide)).trans f.ac, (h _ (by decide)).trans f.mi, (h _ (by decide)).trans f.un, let ⟨t, e⟩ := f.i; ⟨t, (h _ (by decide)).trans e⟩, ⟨t, h1⟩⟩

/-- the frame's kind facts of sorted_list_difference -/
structure Kd (env : Env) : Prop where
  ex : env.kindOf "expected" = some .local
  ac : env.kindOf "actual" = some .local
  mi : env.kindOf "missing" = some .local
  un : env.kindOf "unexpected" = some .local
  i : env.kindOf "i" = some .local
  j : env.kindOf "j" = some .local
  e : env.kindOf "e" = some .local
  a : env.kindOf "a" = some .local
  ie : env.kindOf "IndexError" = some .globalImplicit
  gl : env.globals = mainGlobals
  bu : env.builtins = builtinsNs

theorem handler {pl1 pl2 : Sem Bool} {np q0 q1 q2 q3 q4 q5 q6 q7 q8 r1 r2 r3 r4 r5 r6 r7 r8 bp : Pos} {ea aa : Addr} {its jts ys us : Array Value} {n1 n2 i j : Nat} {tb : Bool} {e : Addr} {c : Value} {g : Heap} {Q : Flow → Shared → Prop}
    (X : Fx s₀ env outer L Me Un) (K : Kd env) (G : ∀ s', Sx s₀ (frs env outer) L Me Un m (lob ys n1) (lob us n2) s' → Gd mg mb s'.heap) (hfr : A.frames = some (env :: outer))
    (S : Sx s₀ (frs env outer) L Me Un m (lob ys n1) (lob us n2) s) (x : Ex s₀ (frs env outer) Me Un (lob ys n1) (lob us n2) tb e c g s) (f : Fa m ea aa Me Un i j)
    (hl : s₀.heap.IsList ea its) (hl2 : s₀.heap.IsList aa jts) (z1 : its.size ≤ 100) (z2 : jts.size ≤ 100) (z3 : ys.size ≤ 100) (z4 : us.size ≤ 100)
    (h : ∀ s' n1' n2', Sx s₀ (frs env outer) L Me Un m (lob (ys ++ (its.toList.drop i).toArray) n1') (lob (us ++ (jts.toList.drop j).toArray) n2') s' → Q .brk s')
    (hc1 : MCall env "missing" "extend" q1 q2 q7 [.Subscript (.Name "expected" q3) (.Slice (some (.Name "i" q4)) none none q5) q6] pl1)
    (hc2 : MCall env "unexpected" "extend" r1 r2 r7 [.Subscript (.Name "actual" r3) (.Slice (some (.Name "j" r4)) none none r5) r6] pl2)
    (hi1 : interactive env = false) (hw1 : swapsWith (.Call (.Attribute (.Name "missing" q1) "extend" q2) [.Subscript (.Name "expected" q3) (.Slice (some (.Name "i" q4)) none none q5) q6] [] q7) none q8.line env = pure false)
    (hw2 : swapsWith (.Call (.Attribute (.Name "unexpected" r1) "extend" r2) [.Subscript (.Name "actual" r3) (.Slice (some (.Name "j" r4)) none none r5) r6] [] r7) none r8.line env = pure false) :
    wpAny (model prog w) A (noteFrame (.ref e) env) (fun _ s₂ => wpAny (model prog w) A (setFlight (.ref e) none) (fun _ s₃ => wpAny (model prog w) A (handleBy (.ref e) env
      [.ExceptHandler (some (.Name "IndexError" np)) none [
        .Expr (.Call (.Attribute (.Name "missing" q1) "extend" q2) [.Subscript (.Name "expected" q3) (.Slice (some (.Name "i" q4)) none none q5) q6] [] q7) q8,
        .Expr (.Call (.Attribute (.Name "unexpected" r1) "extend" r2) [.Subscript (.Name "actual" r3) (.Slice (some (.Name "j" r4)) none none r5) r6] [] r7) r8, .Break bp] q0]) Q E s₃) E s₂) E s := by
  refine ex_note X hfr S x fun s₁ S₁ x₁ => ex_flight X S₁ x₁ fun s₂ S₂ x₂ => ?_
  obtain ⟨oe, vs, y1, _, y2, _⟩ := x₂.at'
  refine wpAny_handleBy_builtin (X := "IndexError") (T := "IndexError") (b := true) PySem.F.isExc_IndexError PySem.F.notTuple_IndexError (by rw [isSubtype_type]; kernel_rfl)
    (ldBoot (G _ S₂) PyProof.Rows.Boot.«IndexError» ⟨rfl, ⟨oe, y1, y2⟩, ?_⟩ (by decide) K.gl K.bu X.hk K.ie (by decide) (by decide))
  refine ex_flight X S₂ x₂ fun s₃ S₃ x₃ => ?_
  obtain ⟨t, hi⟩ := f.i
  obtain ⟨t2, hj⟩ := f.j
  refine wpAny_execs_cons (wpAny_Expr (ext1 X S₃ S₃.me hl f.mi f.ex hi K.mi K.ex K.i (by decide) (by decide) (by decide) (by omega) (by omega) ?_ hc1) hi1 hw1)
  intro s₄ h₅ n' k hs ho
  have S₅ := (S₃.kp k).putM X ho hs
  refine wpAny_execs_cons (wpAny_Expr (ext1 X S₅ S₅.un hl2 f.un f.ac hj K.un K.ac K.j (by decide) (by decide) (by decide) (by omega) (by omega) ?_ hc2) hi1 hw2)
  intro s₆ h₇ n'' k hs ho
  have S₇ := (S₅.kp k).putU X ho hs
  exact wpAny_execs_cons (wpAny_Break (h _ _ _ S₇))
end
end
end Mine

-- part P1
namespace Mine
noncomputable section

noncomputable def merge : List Int → List Int → List Int × List Int
  | [], ys => ([], ys)
  | x :: xs, [] => (x :: xs, [])
  | x :: xs, y :: ys =>
    if x < y then (x :: (merge (xs.dropWhile (· == x)) (y :: ys)).1, (merge (xs.dropWhile (· == x)) (y :: ys)).2)
    else if y < x then ((merge (x :: xs) (ys.dropWhile (· == y))).1, y :: (merge (x :: xs) (ys.dropWhile (· == y))).2)
    else merge (xs.dropWhile (· == x)) (ys.dropWhile (· == y))
termination_by xs ys => xs.length + ys.length
decreasing_by
  all_goals simp_wf
  all_goals have h1 := (List.dropWhile_sublist (· == x) (l := xs)).length_le
  all_goals have h2 := (List.dropWhile_sublist (· == y) (l := ys)).length_le
  all_goals omega

theorem drop_skip {ps : List Int} {p : Int} {k : Nat} : ps.drop (skip ps p k) = (ps.drop k).dropWhile (· == p) := by
  unfold skip
  rw [← List.drop_drop]
  generalize ps.drop k = l
  induction l with
  | nil => rfl
  | cons a l ih =>
    rw [List.takeWhile_cons, List.dropWhile_cons]
    by_cases h : (a == p) = true
    · rw [if_pos h, if_pos h]; simpa using ih
    · rw [if_neg h, if_neg h]; rfl

structure Iv (ps qs : List Int) (ms us : Array Value) (i j : Nat) : Prop where
  ex : ∃ mps ups, Flts mps ms ∧ Flts ups us ∧ mps ++ (merge (ps.drop i) (qs.drop j)).1 = (merge ps qs).1 ∧ ups ++ (merge (ps.drop i) (qs.drop j)).2 = (merge ps qs).2 ∧ mps.length ≤ i ∧ ups.length ≤ j
  hi : i ≤ ps.length
  hj : j ≤ qs.length
theorem Iv.start {ps qs : List Int} : Iv ps qs #[] #[] 0 0 := ⟨⟨[], [], .nil, .nil, rfl, rfl, Nat.le_refl _, Nat.le_refl _⟩, Nat.zero_le _, Nat.zero_le _⟩
theorem Flts.push {ps : List Int} {its : Array Value} {p : Int} {t : Tok} (h : Flts ps its) : Flts (ps ++ [p]) (its.push (.float (F p) t)) := by
  unfold Flts; rw [Array.toList_push]; exact PySem.Paired.snoc h ⟨t, rfl⟩
theorem dropAt {ps : List Int} {i : Nat} {p : Int} (h : ps[i]? = some p) : ps.drop i = p :: ps.drop (i + 1) := by
  obtain ⟨hk, e⟩ := List.getElem?_eq_some_iff.mp h
  rw [List.drop_eq_getElem_cons hk, e]
variable {ps qs : List Int} {ms us : Array Value} {i j : Nat} {p q : Int} {t : Tok}
theorem skip_ge {k : Nat} : k ≤ skip ps p k := Nat.le_add_right _ _
theorem Iv.lt (v : Iv ps qs ms us i j) (h1 : ps[i]? = some p) (h2 : qs[j]? = some q) (h : p < q) : Iv ps qs (ms.push (.float (F p) t)) us (skip ps p (i + 1)) j := by
  obtain ⟨⟨mps, ups, f1, f2, e1, e2, l1, l2⟩, hi, hj⟩ := v
  have hlt := (List.getElem?_eq_some_iff.mp h1).1
  have hge : i + 1 ≤ skip ps p (i + 1) := skip_ge
  rw [dropAt h1, dropAt h2, merge, if_pos h, ← dropAt h2] at e1 e2
  refine ⟨⟨mps ++ [p], ups, f1.push, f2, ?_, ?_, by simp; omega, l2⟩, skip_le hlt, hj⟩
  · rw [drop_skip]; simpa using e1
  · rw [drop_skip]; exact e2
theorem Iv.gt (v : Iv ps qs ms us i j) (h1 : ps[i]? = some p) (h2 : qs[j]? = some q) (h : q < p) : Iv ps qs ms (us.push (.float (F q) t)) i (skip qs q (j + 1)) := by
  obtain ⟨⟨mps, ups, f1, f2, e1, e2, l1, l2⟩, hi, hj⟩ := v
  have hlt := (List.getElem?_eq_some_iff.mp h2).1
  have hge : j + 1 ≤ skip qs q (j + 1) := skip_ge
  rw [dropAt h1, dropAt h2, merge, if_neg (by omega), if_pos h, ← dropAt h1] at e1 e2
  refine ⟨⟨mps, ups ++ [q], f1, f2.push, ?_, ?_, l1, by simp; omega⟩, hi, skip_le hlt⟩
  · rw [drop_skip]; exact e1
  · rw [drop_skip]; simpa using e2
theorem Iv.eq (v : Iv ps qs ms us i j) (h1 : ps[i]? = some p) (h2 : qs[j]? = some q) (h : p = q) : Iv ps qs ms us (skip ps p (i + 1)) (skip qs q (j + 1)) := by
  obtain ⟨⟨mps, ups, f1, f2, e1, e2, l1, l2⟩, hi, hj⟩ := v
  have hlt := (List.getElem?_eq_some_iff.mp h1).1
  have hlt2 := (List.getElem?_eq_some_iff.mp h2).1
  have hge : j + 1 ≤ skip qs q (j + 1) := skip_ge
  have hge2 : i + 1 ≤ skip ps p (i + 1) := skip_ge
  rw [dropAt h1, dropAt h2, merge, if_neg (by omega), if_neg (by omega)] at e1 e2
  refine ⟨⟨mps, ups, f1, f2, ?_, ?_, by omega, by omega⟩, skip_le hlt, skip_le hlt2⟩
  · rw [drop_skip, drop_skip]; exact e1
  · rw [drop_skip, drop_skip]; exact e2
theorem Iv.fin {its jts : Array Value} (v : Iv ps qs ms us i j) (h1 : Flts ps its) (h2 : Flts qs jts) (h : i = ps.length ∨ j = qs.length) :
    Flts (merge ps qs).1 (ms ++ (its.toList.drop i).toArray) ∧ Flts (merge ps qs).2 (us ++ (jts.toList.drop j).toArray) := by
  obtain ⟨⟨mps, ups, f1, f2, e1, e2, l1, l2⟩, hi, hj⟩ := v
  have e : merge (ps.drop i) (qs.drop j) = (ps.drop i, qs.drop j) := by
    rcases h with rfl | rfl
    · rw [List.drop_length, merge]
    · rw [List.drop_length]
      cases ps.drop i with
      | nil => rw [merge]
      | cons a l => rw [merge]
  rw [e] at e1 e2
  rw [← e1, ← e2]
  constructor
  · unfold Flts; simpa using Paired.append f1 (Paired.drop h1 i)
  · unfold Flts; simpa using Paired.append f2 (Paired.drop h2 j)
theorem Iv.sizes (v : Iv ps qs ms us i j) : ms.size ≤ ps.length ∧ us.size ≤ qs.length := by
  obtain ⟨⟨mps, ups, f1, f2, e1, e2, l1, l2⟩, hi, hj⟩ := v
  have := f1.size; have := f2.size; omega
end
end Mine

-- part X5
namespace Mine
noncomputable section

def wbd : Stmt → List Stmt | .While _ b _ _ => b | _ => []
def trh : Stmt → List ExceptHandler | .Try _ h _ _ _ => h | _ => []
def tryS : Stmt := nth (wbd (nth (bdy (pst 1)) 3)) 0
def senv (L a : Addr) (cd : Value) : Env := envOf (nam (pst 1)) (scp (pst 1)) L a cd
theorem kd (L a : Addr) (cd : Value) : Kd (senv L a cd) := ⟨by rfl, by rfl, by rfl, by rfl, by rfl, by rfl, by rfl, by rfl, by rfl, by rfl, by rfl⟩

section
variable {prog : Program} {w : World} {A : Around} {E : Value → Shared → Prop} {s₀ s : Shared} {outer : List Env} {L Me Un a : Addr} {cd : Value} {m : Str → Option Value} {mg mb : Str → Option Value}

theorem hd_none (h : A.handled = none) : ∀ g : Heap, True → Hd A g := fun _ _ => .inl h

set_option maxHeartbeats 4000000 in
theorem turn {ea aa : Addr} {its jts ms us : Array Value} {ps qs : List Int} {n1 n2 i j : Nat} {Q : Flow → Shared → Prop}
    (X : Fx s₀ (senv L a cd) outer L Me Un) (hfr : A.frames = some (senv L a cd :: outer)) (hh : A.handled = none)
    (G : ∀ s' m ms n1 us n2, Sx s₀ (frs (senv L a cd) outer) L Me Un m (lob ms n1) (lob us n2) s' → Gd mg mb s'.heap)
    (hl : s₀.heap.IsList ea its) (hl2 : s₀.heap.IsList aa jts) (hp : Flts ps its) (hq : Flts qs jts) (pp : ∀ p ∈ ps, isPlace p = true) (pq : ∀ p ∈ qs, isPlace p = true)
    (z1 : ps.length ≤ 100) (z2 : qs.length ≤ 100)
    (S : Sx s₀ (frs (senv L a cd) outer) L Me Un m (lob ms n1) (lob us n2) s) (f : Fa m ea aa Me Un i j) (v : Iv ps qs ms us i j)
    (hnext : ∀ s' m' ms' us' n1' n2' i' j', Sx s₀ (frs (senv L a cd) outer) L Me Un m' (lob ms' n1') (lob us' n2') s' → Fa m' ea aa Me Un i' j' → Iv ps qs ms' us' i' j' → i + j < i' + j' → Q .next s')
    (hbrk : ∀ s' m' ms' us' n1' n2', Sx s₀ (frs (senv L a cd) outer) L Me Un m' (lob ms' n1') (lob us' n2') s' → m' "missing" = some (.ref Me) → m' "unexpected" = some (.ref Un) → Flts (merge ps qs).1 ms' → Flts (merge ps qs).2 us' → Q .brk s') :
    wpAny (model prog w) A (exec tryS (senv L a cd)) Q E s := by
  have K := kd L a cd
  have y1 := hp.size
  have y2 := hq.size
  refine wpAny_Try_except ?_
  -- the handler, once
  have hnd : ∀ {s' m' ms' n1' us' n2' i' j' tb e c g}, Sx s₀ (frs (senv L a cd) outer) L Me Un m' (lob ms' n1') (lob us' n2') s' → Ex s₀ (frs (senv L a cd) outer) Me Un (lob ms' n1') (lob us' n2') tb e c g s' → Fa m' ea aa Me Un i' j' → Iv ps qs ms' us' i' j' → (i' = ps.length ∨ j' = qs.length) →
      wpAny (model prog w) A (noteFrame (.ref e) (senv L a cd)) (fun _ s₂ => wpAny (model prog w) A (setFlight (.ref e) none) (fun _ s₃ => wpAny (model prog w) A (handleBy (.ref e) (senv L a cd) (trh tryS)) Q E s₃) E s₂) E s' := by
    intro s' m' ms' n1' us' n2' i' j' tb e c g S' x' f' v' hij
    have := v'.sizes
    have ⟨g1, g2⟩ := v'.fin hp hq hij
    exact handler X K (fun s' S' => G s' _ _ _ _ _ S') hfr S' x' f' hl hl2 (by omega) (by omega) (by omega) (by omega) (fun s'' n1'' n2'' S'' => hbrk s'' _ _ _ _ _ S'' f'.mi f'.un g1 g2) (by unfold MCall; rfl) (by unfold MCall; rfl) (by rfl) (by rfl) (by rfl)
  have raised : ∀ {s' : Shared} {m' ms' n1' us' n2' h' tk e} {c : Value}, Sx s₀ (frs (senv L a cd) outer) L Me Un m' (lob ms' n1') (lob us' n2') s' → Up s'.heap h' → ExAt s'.heap h' e false c →
      Sx s₀ (frs (senv L a cd) outer) L Me Un m' (lob ms' n1') (lob us' n2') { s' with heap := h', toks := tk } ∧ Ex s₀ (frs (senv L a cd) outer) Me Un (lob ms' n1') (lob us' n2') false e c s'.heap { s' with heap := h', toks := tk } :=
    fun {s' m' ms' n1' us' n2' h' tk e c} S' hu hx => ⟨S'.kp (kmk (s := s') (t := tk) hu), hx, fun b o _ e => hu _ _ e, S'.old, S'.me, S'.un⟩
  obtain ⟨ti, hi⟩ := f.i
  obtain ⟨tj, hj⟩ := f.j
  have hvi := v.hi
  have hvj := v.hj
  refine wpAny_execs_cons (wpAny_Assign_Name (Subscript_ (ldX X S f.ex (ldX X S hi ?_ K.i (by decide)) K.ex (by decide))))
  by_cases hlt : i < ps.length
  case neg =>
    refine subscriptTail_builtin (S.lst hl).typeIs slot_list_getitem.lookup (item_out (.inl hh) (S.lst hl) (by omega) (by omega) fun h' tk e c hu hx hc => ?_)
    obtain ⟨S', x'⟩ := raised (tk := tk) S hu hx
    exact hnd S' x' f v (.inl (by omega))
  case pos =>
  have hpi : ps[i]? = some ps[i] := List.getElem?_eq_getElem hlt
  have hpp : isPlace ps[i] = true := pp _ (List.getElem_mem hlt)
  generalize ps[i] = p at hpi hpp
  obtain ⟨te, hve⟩ := hp.at hpi
  refine item_list (S.lst hl) (by omega) (by omega) (by simpa using hve) ?_
  refine stX X S (fun h₁ tk₁ S₁ _ => ?_) K.e
  have f₁ := f.mono (m' := fun y => if y = ("e" : Str) then some (.float (F p) te) else m y) (fun y hy => by simp [six] at hy; rcases hy with rfl | rfl | rfl | rfl | rfl | rfl <;> exact if_neg (by decide))
  have he₁ : (fun y => if y = ("e" : Str) then some (.float (F p) te) else m y) "e" = some (.float (F p) te) := if_pos rfl
  generalize (fun y => if y = ("e" : Str) then some (.float (F p) te) else m y) = m₁ at S₁ f₁ he₁
  obtain ⟨ti, hi⟩ := f₁.i
  obtain ⟨tj, hj⟩ := f₁.j
  refine wpAny_execs_cons (wpAny_Assign_Name (Subscript_ (ldX X S₁ f₁.ac (ldX X S₁ hj ?_ K.j (by decide)) K.ac (by decide))))
  by_cases hlt2 : j < qs.length
  case neg =>
    refine subscriptTail_builtin (S₁.lst hl2).typeIs slot_list_getitem.lookup (item_out (.inl hh) (S₁.lst hl2) (by omega) (by omega) fun h' tk e c hu hx hc => ?_)
    obtain ⟨S', x'⟩ := raised (tk := tk) S₁ hu hx
    exact hnd S' x' f₁ v (.inr (by omega))
  case pos =>
  have hqj : qs[j]? = some qs[j] := List.getElem?_eq_getElem hlt2
  have hqp : isPlace qs[j] = true := pq _ (List.getElem_mem hlt2)
  generalize qs[j] = q at hqj hqp
  obtain ⟨ta, hva⟩ := hq.at hqj
  refine item_list (S₁.lst hl2) (by omega) (by omega) (by simpa using hva) ?_
  refine stX X S₁ (fun h₂ tk₂ S₂ _ => ?_) K.a
  have f₂ := f₁.mono (m' := fun y => if y = ("a" : Str) then some (.float (F q) ta) else m₁ y) (fun y hy => by simp [six] at hy; rcases hy with rfl | rfl | rfl | rfl | rfl | rfl <;> exact if_neg (by decide))
  have ha₂ : (fun y => if y = ("a" : Str) then some (.float (F q) ta) else m₁ y) "a" = some (.float (F q) ta) := if_pos rfl
  have he₂ : (fun y => if y = ("a" : Str) then some (.float (F q) ta) else m₁ y) "e" = some (.float (F p) te) := (if_neg (by decide)).trans he₁
  generalize (fun y => if y = ("a" : Str) then some (.float (F q) ta) else m₁ y) = m₂ at S₂ f₂ he₂ ha₂
  obtain ⟨ti, hi⟩ := f₂.i
  obtain ⟨tj, hj⟩ := f₂.j
  refine wpAny_execs_cons (wpAny_If (wpAny_isTrue_Compare1 (ldX X S₂ he₂ (ldX X S₂ ha₂ (AutoFloatOps.lt_0 (wpAny_truthy_bool ?_)) K.a (by decide)) K.e (by decide))))
  show if flt (F p) (F q) = true then _ else _
  rw [ltF hpp hqp]
  have hsz := v.sizes
  by_cases hpq : p < q
  · rw [if_pos (by simpa using hpq)]
    refine wpAny_execs_cons (wpAny_Expr (app1 X S₂ S₂.me f₂.mi he₂ K.mi K.e (by decide) (by decide) (by omega) (fun h' hs ho => ?_) (by unfold MCall; rfl)))
    have S₃ := S₂.putM X ho hs
    have v₃ := v.lt (t := te) hpi hqj hpq
    refine wpAny_execs_cons (incX X S₃ hi K.i fun h₄ tk₄ t₄ S₄ _ => ?_)
    have f₄ := f₂.setI (m' := fun y => if y = ("i" : Str) then some (.int ((i + 1 : Nat) : Int) t₄) else m₂ y) (i' := i + 1) (if_pos rfl) (fun y hy => if_neg hy)
    refine wpAny_execs_cons (skip_loop (k := i + 1) (J := fun _ => True) X hfr S₄ (fun _ _ _ _ _ => trivial) trivial (hd_none hh) K.ex K.i K.e (by decide) (by decide) (by decide) (by decide) (by decide) hl hp pp hpp (by omega) hlt f₄.ex (if_pos rfl) ((if_neg (by decide)).trans he₂) ?_ ?_)
    · intro s' m' t' S' _ hi' hm' _
      have f' := f₄.setI hi' hm'
      refine wpAny_execs_nil (wpAny_execs_nil (wpAny_execs_nil ?_))
      have : i + 1 ≤ skip ps p (i + 1) := skip_ge
      exact hnext s' m' _ _ _ _ _ _ S' f' v₃ (by omega)
    · intro s' m' t' e c g S' x' _ hi' hm' hend
      exact hnd S' x' (f₄.setI hi' hm') v₃ (.inl hend)
  · rw [if_neg (by simpa using hpq)]
    refine wpAny_execs_cons (wpAny_If (wpAny_isTrue_Compare1 (ldX X S₂ he₂ (ldX X S₂ ha₂ (AutoFloatOps.gt_0 (wpAny_truthy_bool ?_)) K.a (by decide)) K.e (by decide))))
    show if fgt (F p) (F q) = true then _ else _
    rw [gtF hpp hqp]
    by_cases hqp' : q < p
    · rw [if_pos (by simpa using hqp')]
      refine wpAny_execs_cons (wpAny_Expr (app1 X S₂ S₂.un f₂.un ha₂ K.un K.a (by decide) (by decide) (by omega) (fun h' hs ho => ?_) (by unfold MCall; rfl)))
      have S₃ := S₂.putU X ho hs
      have v₃ := v.gt (t := ta) hpi hqj hqp'
      refine wpAny_execs_cons (incX X S₃ hj K.j fun h₄ tk₄ t₄ S₄ _ => ?_)
      have f₄ := f₂.setJ (m' := fun y => if y = ("j" : Str) then some (.int ((j + 1 : Nat) : Int) t₄) else m₂ y) (j' := j + 1) (if_pos rfl) (fun y hy => if_neg hy)
      refine wpAny_execs_cons (skip_loop (k := j + 1) (J := fun _ => True) X hfr S₄ (fun _ _ _ _ _ => trivial) trivial (hd_none hh) K.ac K.j K.a (by decide) (by decide) (by decide) (by decide) (by decide) hl2 hq pq hqp (by omega) hlt2 f₄.ac (if_pos rfl) ((if_neg (by decide)).trans ha₂) ?_ ?_)
      · intro s' m' t' S' _ hi' hm' _
        have f' := f₄.setJ hi' hm'
        refine wpAny_execs_nil (wpAny_execs_nil (wpAny_execs_nil (wpAny_execs_nil ?_)))
        have : j + 1 ≤ skip qs q (j + 1) := skip_ge
        exact hnext s' m' _ _ _ _ _ _ S' f' v₃ (by omega)
      · intro s' m' t' e c g S' x' _ hi' hm' hend
        exact hnd S' x' (f₄.setJ hi' hm') v₃ (.inr hend)
    · rw [if_neg (by simpa using hqp')]
      have v₃ := v.eq hpi hqj (by omega)
      refine wpAny_execs_cons (incX X S₂ hi K.i fun h₄ tk₄ t₄ S₄ _ => ?_)
      have f₄ := f₂.setI (m' := fun y => if y = ("i" : Str) then some (.int ((i + 1 : Nat) : Int) t₄) else m₂ y) (i' := i + 1) (if_pos rfl) (fun y hy => if_neg hy)
      have ha₄ : (fun y => if y = ("i" : Str) then some (.int ((i + 1 : Nat) : Int) t₄) else m₂ y) "a" = some (.float (F q) ta) := (if_neg (by decide)).trans ha₂
      refine wpAny_execs_cons (wpAny_Try_finally (wpAny_execs_cons (skip_loop (k := i + 1) (J := fun _ => True) X hfr S₄ (fun _ _ _ _ _ => trivial) trivial (hd_none hh) K.ex K.i K.e (by decide) (by decide) (by decide) (by decide) (by decide) hl hp pp hpp (by omega) hlt f₄.ex (if_pos rfl) ((if_neg (by decide)).trans he₂) ?_ ?_)))
      · intro s' m' t' S' _ hi' hm' _
        have f' := f₄.setI hi' hm'
        have ha' : m' "a" = some (.float (F q) ta) := (hm' _ (by decide)).trans ha₄
        obtain ⟨tj', hj'⟩ := f'.j
        refine wpAny_execs_nil (wpAny_execs_nil (wpAny_execs_cons (incX X S' hj' K.j fun h₅ tk₅ t₅ S₅ _ => ?_)))
        have f₅ := f'.setJ (m' := fun y => if y = ("j" : Str) then some (.int ((j + 1 : Nat) : Int) t₅) else m' y) (j' := j + 1) (if_pos rfl) (fun y hy => if_neg hy)
        refine wpAny_execs_cons (skip_loop (k := j + 1) (J := fun _ => True) X hfr S₅ (fun _ _ _ _ _ => trivial) trivial (hd_none hh) K.ac K.j K.a (by decide) (by decide) (by decide) (by decide) (by decide) hl2 hq pq hqp (by omega) hlt2 f₅.ac (if_pos rfl) ((if_neg (by decide)).trans ha') ?_ ?_)
        · intro s'' m'' t'' S'' _ hi'' hm'' _
          have f'' := f₅.setJ hi'' hm''
          refine wpAny_execs_nil (wpAny_execs_nil (wpAny_execs_nil (wpAny_execs_nil (wpAny_execs_nil ?_))))
          have : i + 1 ≤ skip ps p (i + 1) := skip_ge
          have : j + 1 ≤ skip qs q (j + 1) := skip_ge
          exact hnext s'' m'' _ _ _ _ _ _ S'' f'' v₃ (by omega)
        · intro s'' m'' t'' e c g S'' x'' _ hi'' hm'' hend
          refine ex_noted X hfr S'' x'' fun s₆ S₆ x₆ => ex_back X S₆ x₆ fun s₇ S₇ x₇ => ?_
          exact hnd S₇ x₇ (f₅.setJ hi'' hm'') v₃ (.inr hend)
      · intro s' m' t' e c g S' x' hc hi' hm' hend
        have f' := f₄.setI hi' hm'
        have ha' : m' "a" = some (.float (F q) ta) := (hm' _ (by decide)).trans ha₄
        obtain rfl : c = .none := hc hh
        refine ex_note X hfr S' x' fun s₁ S₁ x₁ => ⟨ref_ne_byPass _, ex_note X hfr S₁ x₁ fun s₃ S₃ x₃ => ex_flight X S₃ x₃ fun s₄ S₄ x₄ => ?_⟩
        obtain ⟨tj', hj'⟩ := f'.j
        have hfr' : (A.mark (some (.ref e))).frames = some (senv L a cd :: outer) := hfr
        refine wpAny_execs_cons (incX X S₄ hj' K.j fun h₅ tk₅ t₅ S₅ k₅ => ?_)
        have f₅ := f'.setJ (m' := fun y => if y = ("j" : Str) then some (.int ((j + 1 : Nat) : Int) t₅) else m' y) (j' := j + 1) (if_pos rfl) (fun y hy => if_neg hy)
        have x₅ := x₄.set X S₄ k₅ (tk := tk₅)
        refine wpAny_execs_cons (skip_loop (k := j + 1) (J := fun h => ExAt g h e true .none ∧ ∀ b o, b ∉ frs (senv L a cd) outer → g.get? b = some o → h.get? b = some o) X hfr' S₅
          (fun h h' hJ hL k => ⟨hJ.1.keep hL k, fun b o e1 e2 => k b o (fun q => e1 (q ▸ X.lfr)) (hJ.2 b o e1 e2)⟩) ⟨x₅.at', x₅.all⟩
          (fun h hJ => .inr (let ⟨oe, vs, b1, b2, b3, b4, b5, _⟩ := hJ.1; ⟨e, oe, vs, rfl, b1, b4, b5⟩)) K.ac K.j K.a (by decide) (by decide) (by decide) (by decide) (by decide) hl2 hq pq hqp (by omega) hlt2 f₅.ac (if_pos rfl) ((if_neg (by decide)).trans ha') ?_ ?_)
        · intro s'' m'' t'' S'' hJ hi'' hm'' _
          refine wpAny_execs_nil ?_
          refine ex_pass X S'' ⟨hJ.1, hJ.2, x₅.old, x₅.me, x₅.un⟩ fun s₆ S₆ x₆ => ?_
          exact hnd S₆ x₆ (f₅.setJ hi'' hm'') v₃ (.inl hend)
        · intro s'' m'' t'' e' c' g' S'' x'' _ hi'' hm'' hend'
          refine ex_noted X hfr' S'' x'' fun s₆ S₆ x₆ => ex_back X S₆ x₆ fun s₇ S₇ x₇ => ?_
          exact hnd S₇ x₇ (f₅.setJ hi'' hm'') v₃ (.inr hend')
end
end
end Mine

-- part X6
namespace Mine
noncomputable section
section
variable {prog : Program} {w : World} {A : Around} {E : Value → Shared → Prop} {s s₀ : Shared} {env : Env} {outer : List Env} {Q : Value → Shared → Prop} {mg mb : Str → Option Value}
  {L : Addr} {m : Str → Option Value} {nw : List (Addr × Obj)}

theorem fresh_size (h : Heap) : h.get? h.objs.size = none := by
  cases e : h.get? h.objs.size with
  | none => rfl
  | some o => exact absurd (Heap.lt_size e) (Nat.lt_irrefl _)

theorem nilS {pos : Pos} (F : Sf s₀ L m nw s) (h : ∀ D s', Sf s₀ L m ((D, lob #[] 0) :: nw) s' → s.heap.get? D = none → Q (.ref D) s') : wpAny (model prog w) A (eval (.List [] pos) env) Q E s := by
  refine wpAny_List_spliced (args_nil ⟨by simp, ?_⟩)
  exact h _ _ (F.add (kpush _ _) (fresh_size _) (Heap.get?_push_size _ rfl)) (fresh_size _)

theorem tup2S {e1 e2 : Expr} {x1} {pos : Pos}
    (h : wpAny (model prog w) A (eval e1 env) (fun v1 s₁ => wpAny (model prog w) A (eval e2 env) (fun v2 s₂ =>
      ∀ T s', Keeps s₂ s' → s₂.heap.get? T = none → s'.heap.get? T = some { cls := .type "tuple", data := .seq #[v1, v2] } → Q (.ref T) s') E s₁) E s)
    (he : starEach [e1, e2] env = (false, eval e1 env) :: starEach [e2] env := by rfl)
    (he2 : starEach [e2] env = (false, eval e2 env) :: starEach [] env := by rfl) :
    wpAny (model prog w) A (eval (.Tuple [e1, e2] x1 pos) env) Q E s := by
  refine wpAny_Tuple_spliced (args_cons (wpAny_mono h (fun v s₂ h₂ => args_cons (wpAny_mono h₂ (fun v s₃ h₃ => args_nil ?_) fun _ _ x => x) he2) fun _ _ x => x) he)
  exact ⟨by show 2 ≤ sizeLine; decide, h₃ _ _ (kpush _ _) (fresh_size _) (Heap.get?_push_size _ rfl)⟩
end

section
variable {prog : Program} {w : World} {A : Around} {E : Value → Shared → Prop} {s : Shared} {outer : List Env} {Q : Value → Shared → Prop} {mg mb : Str → Option Value}

structure Lax (fr : List Addr) (s s' : Shared) : Prop where
  sm : ∃ h' tk, s' = { s with heap := h', toks := tk }
  old : ∀ b o, b ∉ fr → s.heap.get? b = some o → s'.heap.get? b = some o
  up : s.heap.UpToSlots s'.heap

set_option maxHeartbeats 4000000 in
theorem sld_call {a ea aa : Addr} {its jts : Array Value} {ps qs : List Int} (G : Gd mg mb s.heap) (Gk : ∀ h' : Heap, (∀ b o, b ∉ outer.filterMap (·.frame) → s.heap.get? b = some o → h'.get? b = some o) → s.heap.UpToSlots h' → Gd mg mb h')
    (hf : IsFn s.heap 1 a) (hh : A.handled = none) (hroom : A.depth < recursionLimit)
    (hfr : A.frames = some outer) (hff : ∃ B, B.StaysIn s.heap ∧ s.heap.FunFrames B outer)
    (hl : s.heap.IsList ea its) (hl2 : s.heap.IsList aa jts) (hp : Flts ps its) (hq : Flts qs jts) (pp : ∀ p ∈ ps, isPlace p = true) (pq : ∀ p ∈ qs, isPlace p = true)
    (z1 : ps.length ≤ 100) (z2 : qs.length ≤ 100)
    (h : ∀ s' T Me Un ms us n1 n2, Lax (outer.filterMap (·.frame)) s s' → s'.heap.get? T = some { cls := .type "tuple", data := .seq #[.ref Me, .ref Un] } → s'.heap.get? Me = some (lob ms n1) → s'.heap.get? Un = some (lob us n2) →
      s.heap.get? T = none → s.heap.get? Me = none → s.heap.get? Un = none → Flts (merge ps qs).1 ms → Flts (merge ps qs).2 us → Q (.ref T) s') :
    wpAny (model prog w) A (call (.ref a) [.ref ea, .ref aa]) Q E s := by
  refine fnCall G hf hroom (fun _ _ _ => by rfl) (locs (by rfl)) (fun cd s₁ F => ?_) (by rfl) (by rfl) (by rfl) (by decide)
  generalize hL : s.heap.objs.size = L at F
  have K := kd L a cd
  change Sf s (senv L a cd).locals _ _ _ at F
  show wpAny _ (A.deeper (senv L a cd)) (execs (bdy (pst 1)) (senv L a cd)) _ _ _
  refine wpAny_execs_cons (wpAny_Assign_two (intS F fun s₂ t F => wpAny_assign_Name (stS F (fun s₃ F => wpAny_assign_Name (stS F (fun s₄ F => ?_) K.j)) K.i)))
  refine wpAny_execs_cons (wpAny_Assign_Name (nilS F fun Me s₅ F hMe => stS F (fun s₆ F6 => ?_) K.mi))
  refine wpAny_execs_cons (wpAny_Assign_Name (nilS F6 fun Un s₇ F hUn => stS F (fun s₈ F => ?_) K.un))
  have hMeU : Me ≠ Un := by
    rintro rfl
    rw [F6.get List.mem_cons_self] at hUn; cases hUn
  have nM := F.nw (Me, lob #[] 0) (List.mem_cons_of_mem _ List.mem_cons_self)
  have nU := F.nw (Un, lob #[] 0) List.mem_cons_self
  have hL0 : s.heap.get? L = none := by rw [← hL]; exact fresh_size _
  obtain ⟨B, hB, hff⟩ := hff
  have X : Fx s (senv L a cd) outer L Me Un := ⟨rfl, rfl, rfl, hL0, nM.2.2, nU.2.2, nM.2.1, nU.2.1, hMeU, B, by rw [← hL]; exact hB.fresh, hff⟩
  have S : Sx s (frs (senv L a cd) outer) L Me Un _ (lob #[] 0) (lob #[] 0) s₈ := ⟨F.sm, fun b o _ e => F.up _ _ e, .of_keeps F.up, F.ns, nM.1, nU.1⟩
  have hfr' : (A.deeper (senv L a cd)).frames = some (senv L a cd :: outer) := Around.frames_deeper hfr
  have inL : ∀ {s' m ms n1 us n2}, Sx s (frs (senv L a cd) outer) L Me Un m (lob ms n1) (lob us n2) s' → ∀ b o, b ∉ outer.filterMap (·.frame) → s.heap.get? b = some o → s'.heap.get? b = some o := fun {s' m ms n1 us n2} S' b o h1 h2 =>
    S'.old b o (fun q => by
      simp only [frs, List.filterMap_cons, X.hf] at q
      rcases List.mem_cons.mp q with q | q
      · rw [q, hL0] at h2; cases h2
      · exact h1 q) h2
  refine wpAny_execs_cons (wpAny_While (codeAny_whileLoop (fun n s' => ∃ m ms us n1 n2 i j, n = ps.length + qs.length - (i + j) ∧ Sx s (frs (senv L a cd) outer) L Me Un m (lob ms n1) (lob us n2) s' ∧ Fa m ea aa Me Un i j ∧ Iv ps qs ms us i j) ?_ _
    ⟨_, #[], #[], 0, 0, 0, 0, rfl, S, ⟨by rfl, by rfl, by rfl, by rfl, ⟨_, by rfl⟩, ⟨_, by rfl⟩⟩, Iv.start⟩))
  rintro n s' ⟨m, ms, us, n1, n2, i, j, rfl, S', f', v'⟩
  refine isTrue_plain (wpAny_Constant_bool (wpAny_truthy_bool ?_))
  rw [if_pos rfl]
  refine wpAny_execs_cons (turn (mg := mg) (mb := mb) X hfr' hh (fun s' m ms n1 us n2 S' => Gk _ (inL S') S'.up) hl hl2 hp hq pp pq z1 z2 S' f' v' ?_ ?_)
  · intro s'' m' ms' us' n1' n2' i' j' S'' f'' v'' hlt
    have := v''.hi; have := v''.hj
    exact wpAny_execs_nil ⟨ps.length + qs.length - (i' + j'), by omega, m', ms', us', n1', n2', i', j', rfl, S'', f'', v''⟩
  · intro s'' m' ms' us' n1' n2' S'' hm hu g1 g2
    refine wpAny_execs_cons (wpAny_Return_some (tup2S (ldX X S'' hm (ldX X S'' hu ?_ K.un (by decide)) K.mi (by decide))))
    intro T s₃ k hT0 hT
    have S₃ := S''.kp k
    have hTs : s.heap.get? T = none := by
      cases q : s.heap.get? T with
      | none => rfl
      | some o =>
        exfalso
        by_cases hb : T ∈ outer.filterMap (·.frame)
        · obtain ⟨_, o', ho', hnf⟩ := hff.mem hb
          obtain ⟨sl, z⟩ := S''.up T o' ho' hnf
          rw [hT0] at z; cases z
        · rw [inL S'' T o hb q] at hT0; cases hT0
    exact h s₃ T Me Un ms' us' n1' n2' ⟨S₃.sm, inL S₃, S₃.up⟩ hT S₃.me S₃.un hTs X.m0 X.u0 g1 g2
end
end
end Mine

-- part C1
namespace Mine
noncomputable section
section
variable {prog : Program} {w : World} {A : Around} {E : Value → Shared → Prop} {R : Result → Shared → Prop} {s : Shared}

abbrev tests (ifs : List Expr) (env : Env) : Sem Bool := forIn ifs true fun c r => if r = true then do let ok ← isTrue c env (eval c env); pure (ForInStep.yield ok) else pure (ForInStep.yield r)

theorem cLoop {elt target iter : Expr} {ifs : List Expr} {scope : Scope} {pos : Pos} {it acc : Value} {env : Env} (I : Nat → Shared → Prop)
    (turn : ∀ n s, I n s → wpAny (model prog w) A (pyNext it) (fun r s₁ => match r with
      | none => R (.ok .next) s₁
      | some v => wpAny (model prog w) A (letOwnedTupleGo target it v) (fun _ s₁' => wpAny (model prog w) A (assign target env v) (fun _ s₂ =>
          wpAny (model prog w) A (tests ifs env) (fun ok s₃ =>
            if ok = true then wpAny (model prog w) A (eval elt env) (fun x s₄ =>
              wpAny (model prog w) A (call (.builtin "list.append") [acc, x]) (fun _ s₅ => ∃ m, m < n ∧ I m s₅) (notedBy (model prog w) A env fun e s' => R (.error e) s') s₄) (notedBy (model prog w) A env fun e s' => R (.error e) s') s₃
            else ∃ m, m < n ∧ I m s₃) (notedBy (model prog w) A env fun e s' => R (.error e) s') s₂) (notedBy (model prog w) A env fun e s' => R (.error e) s') s₁') (notedBy (model prog w) A env fun e s' => R (.error e) s') s₁) (notedBy (model prog w) A env fun e s' => R (.error e) s') s)
    (n : Nat) (h : I n s) : codeAny (model prog w) A (.compLoop (.ListComp elt [⟨target, iter, ifs, 0⟩] scope pos) 0 it acc env) R s := by
  refine codeAny_loop rfl I (fun n s hI => ?_) n h
  show wpAny _ A ((compTurn (.ListComp elt [⟨target, iter, ifs, 0⟩] scope pos) 0 it acc env).onRaise (fun x => do noteFrame x env; theTreesLotGoes x)) _ _ s
  refine wpAny_noted ?_
  rw [compTurn_list]
  refine wpAny_bind (wpAny_standAt (wpAny_bind (wpAny_mono (turn n s hI) (fun r s₁ h₁ => ?_) fun _ _ h' => h')))
  cases r with
  | none => exact wpAny_pure h₁
  | some v =>
    refine wpAny_bind (wpAny_mono h₁ (fun _ s₁' h₁' => ?_) fun _ _ h' => h')
    refine wpAny_bind (wpAny_mono h₁' (fun _ s₂ h₂ => wpAny_bind (wpAny_mono h₂ (fun ok s₃ h₃ => ?_) fun _ _ h' => h')) fun _ _ h' => h')
    cases ok with
    | false => exact wpAny_pure ⟨rfl, h₃⟩
    | true => exact wpAny_bind (wpAny_bind (wpAny_mono h₃ (fun x s₄ h₄ => wpAny_bind (wpAny_mono h₄ (fun _ s₅ h₅ => wpAny_pure (wpAny_pure ⟨rfl, h₅⟩)) fun _ _ h' => h')) fun _ _ h' => h'))

/-- what a comprehension goes over, target and all -/
structure Src (prog : Program) (w : World) (A : Around) (I : Addr) (fp wr : List Addr) (tgt : Expr) (ce : Addr → Env) (n : Nat) (St : Nat → Heap → Prop) (P : Nat → (Str → Option Value) → Prop) : Prop where
  sub : ∀ b ∈ wr, b ∈ fp
  frame : ∀ i h h', St i h → (∀ b ∈ fp, ∀ o, h.get? b = some o → h'.get? b = some o) → St i h'
  live : ∀ i h, St i h → ∀ b ∈ wr, ∃ o, h.get? b = some o
  item : ∀ i C (s : Shared) m (Q : Shared → Prop) (E : Value → Shared → Prop), i < n → C ∉ fp → St i s.heap → s.heap.Ns C m →
    (∀ m' h' tk, P i m' → h'.Ns C m' → St (i + 1) h' → (∀ b o, b ≠ C → b ∉ wr → s.heap.get? b = some o → h'.get? b = some o) → Q { s with heap := h', toks := tk }) →
    wpAny (model prog w) A (pyNext (.ref I)) (fun r s₁ => ∃ v, r = some v ∧ wpAny (model prog w) A (letOwnedTupleGo tgt (.ref I) v) (fun _ s₂ => wpAny (model prog w) A (assign tgt (ce C) v) (fun _ s₃ => Q s₃) E s₂) E s₁) E s
  done : ∀ (s : Shared) (Q : Option Value → Shared → Prop) (E : Value → Shared → Prop), St n s.heap →
    (∀ h' tk, (∀ b o, b ∉ wr → s.heap.get? b = some o → h'.get? b = some o) → Q none { s with heap := h', toks := tk }) → wpAny (model prog w) A (pyNext (.ref I)) Q E s
  self : ∀ i (s : Shared) (Q : Value → Shared → Prop) (E : Value → Shared → Prop), St i s.heap → Q (.ref I) s → wpAny (model prog w) A (pyIter (.ref I)) Q E s

/-- a made item: a plain value, or a new object -/
def ElA (bad : List Addr) (hB h : Heap) (F : Nat → Value → Prop) (G : Nat → Obj → Prop) (i : Nat) (y : Value) : Prop :=
  F i y ∨ ∃ T o, y = .ref T ∧ T ∉ bad ∧ hB.get? T = none ∧ h.get? T = some o ∧ G i o
theorem ElA.keep {bad : List Addr} {hB h h' : Heap} {F : Nat → Value → Prop} {G : Nat → Obj → Prop} {i : Nat} {y : Value} (x : ElA bad hB h F G i y) (k : ∀ b o, b ∉ bad → h.get? b = some o → h'.get? b = some o) : ElA bad hB h' F G i y := by
  rcases x with x | ⟨T, o, a, b, c, d, e⟩
  · exact .inl x
  · exact .inr ⟨T, o, a, b, c, k _ _ b d, e⟩

structure Quiet (prog : Program) (w : World) (A : Around) (ce : Addr → Env) (ifs : List Expr) (elt : Expr) (P : Nat → (Str → Option Value) → Prop) (n : Nat) (p : Nat → Bool) (F : Nat → Value → Prop) (G : Nat → Obj → Prop) (sB : Shared) : Prop where
  tests : ∀ C i s₃ m₃ E', i < n → P i m₃ → s₃.heap.Ns C m₃ → Keeps sB s₃ → sB.heap.get? C = none → wpAny (model prog w) A (tests ifs (ce C)) (fun ok s₄ => ok = p i ∧ Keeps s₃ s₄) E' s₃
  elt : ∀ C i s₃ m₃ E', i < n → p i = true → P i m₃ → s₃.heap.Ns C m₃ → Keeps sB s₃ → sB.heap.get? C = none →
    wpAny (model prog w) A (eval elt (ce C)) (fun y s₄ => (F i y ∨ ∃ T o, y = .ref T ∧ s₃.heap.get? T = none ∧ s₄.heap.get? T = some o ∧ G i o) ∧ Keeps s₃ s₄) E' s₃

theorem range_succ_filter (n : Nat) (p : Nat → Bool) : (List.range (n + 1)).filter p = (List.range n).filter p ++ (if p n then [n] else []) := by
  rw [List.range_succ, List.filter_append]; cases h : p n <;> simp [h]

theorem cBlock {elt iter tgt : Expr} {ifs : List Expr} {scope : Scope} {cl : List (Str × Addr)} {pos : Pos} {sB s₂ : Shared} {env : Env} {I : Addr} {fp wr : List Addr} {n : Nat} {P : Nat → (Str → Option Value) → Prop}
    {St : Nat → Heap → Prop} (W : Src prog w A I fp wr tgt (fun C => compEnvC scope cl C env) n St P) (hsz : n ≤ 1000) (p : Nat → Bool) (F : Nat → Value → Prop) (G : Nat → Obj → Prop) {RR : Value → Addr → Result → Shared → Prop}
    (hcell : ∀ y ∈ scope.names, y.2 ≠ .cell) (hkind : scope.kind = .function) (hst : St 0 s₂.heap) (hfp : ∀ b ∈ fp, b < s₂.heap.objs.size)
    (hB : Keeps sB s₂) (hBw : ∀ b o, sB.heap.get? b = some o → b ∉ wr)
    (hq : Quiet prog w A (fun C => compEnvC scope cl C env) ifs elt P n p F G sB)
    (hRR : ∀ D C s' m' ys k, sB.heap.get? D = none → sB.heap.get? C = none → D ≠ C → s'.heap.Ns C m' → s'.heap.get? D = some (lob ys k) → Keeps sB s' → Paired (ElA (C :: D :: wr) sB.heap s'.heap F G) ((List.range n).filter p) ys.toList → RR (.ref D) C (.ok .next) s') :
    wpAny (model prog w) A (newList []) (fun acc s₃ => wpAny (model prog w) A (newFunctionEnv scope env.globals cl [] env.qual none .none (some env)) (fun cenv s₄ =>
      codeAny (model prog w) A (.compStart (.ListComp elt [⟨tgt, iter, ifs, 0⟩] scope pos) 0 (.ref I) acc { cenv with scope := relabel scope env }) (RR acc cenv.locals) s₄) E s₃) E s₂ := by
  refine wpAny_newObj_type (wpAny_newFunctionEnv hcell (by intro y hy; simp at hy) (fun h₁ hns₁ hsb₁ => ?_) hkind)
  dsimp only at hns₁ hsb₁ ⊢
  generalize hH2 : s₂.heap.push { cls := .type "list", dict := none, data := .seq ([] : List Value).toArray } = H2 at hns₁ hsb₁ ⊢
  have hC : H2.objs.size = s₂.heap.objs.size + 1 := by rw [← hH2, Heap.size_push]
  have hDC : s₂.heap.objs.size ≠ H2.objs.size := by rw [hC]; exact Nat.ne_of_lt (Nat.lt_succ_self _)
  have below : ∀ b, b < s₂.heap.objs.size → b ≠ H2.objs.size ∧ b ≠ s₂.heap.objs.size := fun b hb => ⟨by rw [hC]; exact Nat.ne_of_lt (Nat.lt_succ_of_lt hb), Nat.ne_of_lt hb⟩
  have hDf : s₂.heap.objs.size ∉ fp := fun hm => Nat.lt_irrefl _ (hfp _ hm)
  have hCf : H2.objs.size ∉ fp := fun hm => by have := hfp _ hm; rw [hC] at this; exact Nat.lt_irrefl _ (Nat.lt_of_succ_lt this)
  have hCw : H2.objs.size ∉ wr := fun h => hCf (W.sub _ h)
  have hDw : s₂.heap.objs.size ∉ wr := fun h => hDf (W.sub _ h)
  have old : ∀ b o, s₂.heap.get? b = some o → h₁.get? b = some o := fun b o e => hsb₁.extBut b o (below b (Heap.lt_size e)).1 (Heap.get?_push_of_some _ (hH2 ▸ Heap.get?_push_of_some _ e))
  have hacc : h₁.get? s₂.heap.objs.size = some (lob #[] 0) := hsb₁.extBut _ _ hDC (Heap.get?_push_of_some _ (hH2 ▸ Heap.get?_push_size _ rfl))
  have hst₁ : St 0 h₁ := W.frame _ _ _ hst fun b _ o e => old b o e
  have inB : ∀ b o, sB.heap.get? b = some o → b ≠ H2.objs.size ∧ b ≠ s₂.heap.objs.size ∧ b ∉ wr := fun b o e => ⟨(below b (Heap.lt_size (kup hB b o e))).1, (below b (Heap.lt_size (kup hB b o e))).2, hBw b o e⟩
  have noB : ∀ b, ¬ (b ≠ H2.objs.size ∧ b ≠ s₂.heap.objs.size ∧ b ∉ wr) → sB.heap.get? b = none := fun b hb => by
    cases e : sB.heap.get? b with
    | none => rfl
    | some o => exact absurd (inB b o e) hb
  have loop : ∀ s₃ : Shared, s₃ = { s₂ with heap := h₁, toks := s₂.toks + ([] : List (Str × Value)).length } →
      codeAny (model prog w) A (.compLoop (.ListComp elt [⟨tgt, iter, ifs, 0⟩] scope pos) 0 (.ref I) (.ref s₂.heap.objs.size) (compEnvC scope cl H2.objs.size env))
        (RR (.ref s₂.heap.objs.size) H2.objs.size) s₃ := by
    rintro s₃ rfl
    refine cLoop (fun k s' => ∃ i ys nY m', Keeps sB s' ∧ St i s'.heap ∧ s'.heap.get? s₂.heap.objs.size = some (lob ys nY) ∧ s'.heap.Ns H2.objs.size m' ∧
        Paired (ElA (H2.objs.size :: s₂.heap.objs.size :: wr) sB.heap s'.heap F G) ((List.range i).filter p) ys.toList ∧ i ≤ n ∧ k = n + 1 - i) ?_ (n + 1)
      ⟨0, #[], 0, _, ktrans hB (kmk (s := s₂) old), hst₁, hacc, hns₁, .nil, Nat.zero_le _, rfl⟩
    rintro k s' ⟨i, ys, nY, m', hK, hst', hD', hn', hP', hi, rfl⟩
    have hle : (ys.toList.length) ≤ i := by
      have := hP'.length
      have h2 := List.length_filter_le p (List.range i)
      simp at this h2 ⊢; omega
    by_cases hlt : i < n
    · refine wpAny_mono (W.item i H2.objs.size s' m' ?q _ hlt hCf hst' hn' ?k) ?m fun _ _ x => x
      case m =>
        rintro r s₁ ⟨v, rfl, h₁⟩
        exact h₁
      case k =>
        intro m₂ h₂ tk₂ hPm hn₂ hst₂ hk₂
        have hK₂ : Keeps sB { s' with heap := h₂, toks := tk₂ } := by
          obtain ⟨a, b, rfl, u⟩ := hK
          exact ⟨h₂, tk₂, rfl, fun b o e => hk₂ b o (inB b o e).1 (inB b o e).2.2 (u b o e)⟩
        refine wpAny_mono (hq.tests _ i _ m₂ _ hlt hPm hn₂ hK₂ (noB _ (fun h => h.1 rfl))) (fun ok s₃ h₃ => ?_) fun _ _ x => x
        obtain ⟨rfl, k₃⟩ := h₃
        have hst₃ : St (i + 1) s₃.heap := W.frame _ _ _ hst₂ fun b _ o e => kup k₃ b o e
        have up₃ : ∀ b o, b ≠ H2.objs.size → b ∉ wr → s'.heap.get? b = some o → s₃.heap.get? b = some o := fun b o h1 h2 e => kup k₃ b o (hk₂ b o h1 h2 e)
        have hD₃ := up₃ _ _ hDC hDw hD'
        have hn₃ := hn₂.keeps (kup k₃)
        have hP₃ := hP'.mono (F' := ElA (H2.objs.size :: s₂.heap.objs.size :: wr) sB.heap s₃.heap F G) fun _ _ y => y.keep fun b o hb e => up₃ b o (fun q => hb (by simp [q])) (fun q => hb (by simp [q])) e
        cases hp : p i with
        | false =>
          rw [if_neg (by simp)]
          exact ⟨n + 1 - (i + 1), by omega, i + 1, ys, nY, m₂, ktrans hK₂ k₃, hst₃, hD₃, hn₃, by rw [range_succ_filter, hp]; simpa using hP₃, hlt, rfl⟩
        | true =>
          rw [if_pos rfl]
          refine wpAny_mono (hq.elt _ i _ m₂ _ hlt hp hPm hn₃ (ktrans hK₂ k₃) (noB _ (fun h => h.1 rfl))) (fun y s₄ h₄ => ?_) fun _ _ x => x
          obtain ⟨hy, k₄⟩ := h₄
          refine append_at (hsz := by have := sizeLine_eq; simp at hle; omega) (kup k₄ _ _ hD₃) fun h₅ hs₅ hD₅ => ?_
          have hK₅ : Keeps sB { s₄ with heap := h₅ } := by
            obtain ⟨a, b, rfl, u⟩ := ktrans (ktrans hK₂ k₃) k₄
            exact ⟨h₅, _, rfl, fun b o e => hs₅.extBut b o (inB b o e).2.1 (u b o e)⟩
          have u₅ : ∀ b o, b ≠ s₂.heap.objs.size → s₃.heap.get? b = some o → h₅.get? b = some o := fun b o hb e => hs₅.extBut b o hb (kup k₄ b o e)
          refine ⟨n + 1 - (i + 1), by omega, i + 1, ys.push y, nY + 1, m₂, hK₅, W.frame _ _ _ hst₃ fun b hb o e => u₅ b o (fun q => hDf (q ▸ hb)) e, hD₅, (hn₃.keeps (kup k₄)).sameBut hs₅ (Ne.symm hDC), ?_, hlt, rfl⟩
          rw [range_succ_filter, hp, if_pos rfl, Array.toList_push]
          refine PySem.Paired.snoc (hP₃.mono fun _ _ z => z.keep fun b o hb e => u₅ b o (fun q => hb (by simp [q])) e) ?_
          rcases hy with hy | ⟨T, o, rfl, t1, t2, t3⟩
          · exact .inl hy
          · have tC : T ≠ H2.objs.size := by rintro rfl; obtain ⟨_, _, _, ho, _⟩ := hn₃; rw [t1] at ho; cases ho
            have tD : T ≠ s₂.heap.objs.size := by rintro rfl; rw [t1] at hD₃; cases hD₃
            have tw : T ∉ wr := fun hm => by obtain ⟨o, ho⟩ := W.live _ _ hst₃ T hm; rw [t1] at ho; cases ho
            refine .inr ⟨T, o, rfl, by simp [tC, tD, tw], ?_, hs₅.extBut _ _ tD t2, t3⟩
            cases e : sB.heap.get? T with
            | none => rfl
            | some o' => rw [kup (ktrans hK₂ k₃) T o' e] at t1; cases t1
    · have hin : i = n := by omega
      subst hin
      refine W.done _ _ _ hst' fun h₂ tk₂ hk₂ => ?_
      have hK₂ : Keeps sB { s' with heap := h₂, toks := tk₂ } := by
        obtain ⟨a, b, rfl, u⟩ := hK
        exact ⟨h₂, tk₂, rfl, fun b o e => hk₂ b o (inB b o e).2.2 (u b o e)⟩
      exact hRR _ _ _ m' ys nY (noB _ fun h => h.2.1 rfl) (noB _ fun h => h.1 rfl) hDC (hn'.at' fun o e => hk₂ _ o hCw e) (hk₂ _ _ hDw hD') hK₂ (hP'.mono fun _ _ z => z.keep fun b o hb e => hk₂ b o (fun q => hb (by simp [q])) e)
  exact codeAny_compStart_list (loop _ rfl) (W.self 0 _ _ _ hst₁ (loop _ rfl))
end
end
end Mine

-- part C2
namespace Mine
noncomputable section
section
variable {prog : Program} {w : World} {A : Around} {E : Value → Shared → Prop} {s s₀ : Shared} {env : Env}

def Iters (prog : Program) (w : World) (A : Around) (ce : Addr → Env) (tgt : Expr) (xv : Value) (sB s₁ : Shared) (n : Nat) (P : Nat → (Str → Option Value) → Prop) : Prop :=
  ∀ (Q : Value → Shared → Prop) (E : Value → Shared → Prop), (∀ I fp wr St s₂, Src prog w A I fp wr tgt ce n St P → St 0 s₂.heap → (∀ b ∈ fp, b < s₂.heap.objs.size) → Keeps sB s₂ → (∀ b o, sB.heap.get? b = some o → b ∉ wr) → Q (.ref I) s₂) →
    wpAny (model prog w) A (pyIter xv) Q E s₁

def El (hB h : Heap) (F : Nat → Value → Prop) (G : Nat → Obj → Prop) (i : Nat) (y : Value) : Prop :=
  F i y ∨ ∃ T o, y = .ref T ∧ hB.get? T = none ∧ h.get? T = some o ∧ G i o

theorem compEval {elt iter tgt : Expr} {ifs : List Expr} {scope : Scope} {cl : List (Str × Addr)} {pos : Pos} {Q : Value → Shared → Prop}
    (h : wpAny (model prog w) A (eval iter env) (fun xv s₁ => ∃ sB n P p F G, Iters prog w A (fun C => compEnvC scope cl C env) tgt xv sB s₁ n P ∧ n ≤ 1000 ∧ Quiet prog w A (fun C => compEnvC scope cl C env) ifs elt P n p F G sB ∧
      (∀ D s' ys k, Keeps sB s' → sB.heap.get? D = none → s'.heap.get? D = some (lob ys k) → Paired (El sB.heap s'.heap F G) ((List.range n).filter p) ys.toList → Q (.ref D) s')) E s)
    (hclos : closureFor scope env = pure cl := by rfl) (hcell : ∀ y ∈ scope.names, y.2 ≠ .cell := by decide) (hkind : scope.kind = .function := by rfl)
    (hnames : ∀ y ∈ scope.names, y.2 = .local → scope.names.lookup y.1 = some .local := by decide)
    (hs : ∀ x, foldedSetIterable iter env x = pure x := by intro _; rfl) :
    wpAny (model prog w) A (eval (.ListComp elt [⟨tgt, iter, ifs, 0⟩] scope pos) env) Q E s := by
  rw [eval_ListComp]
  refine wpAny_comprehension_free (use := none) rfl hs hclos hkind hnames (wpAny_mono h (fun xv s₁ h₁ => ?_) fun _ _ e => e)
  obtain ⟨sB, n, P, p, F, G, hI, hn, hq, hQ⟩ := h₁
  refine hI _ _ fun I fp wr St s₂ W hst hfp hK hw => ?_
  refine cBlock (RR := fun acc C => compPost (model prog w) A E none Q acc C) W hn p F G hcell hkind hst hfp hK hw hq ?_
  intro D C s' m' ys k hD hC hDC hnC hl hK' hP
  refine ⟨m', hnC, fun h'' hs'' => ?_⟩
  have ne : ∀ b o, sB.heap.get? b = some o → b ≠ C := fun b o e q => by rw [q, hC] at e; cases e
  refine hQ D _ ys k ?_ hD (hs''.extBut _ _ hDC hl) (hP.mono fun i y z => ?_)
  · obtain ⟨a, b, rfl, u⟩ := hK'
    exact ⟨h'', _, rfl, fun b o e => hs''.extBut b o (ne b o e) (u b o e)⟩
  · rcases z with z | ⟨T, o, a, b, c, d, e⟩
    · exact .inl z
    · exact .inr ⟨T, o, a, c, hs''.extBut _ _ (fun q => b (by simp [q])) d, e⟩

theorem compAssign {elt iter tgt : Expr} {ifs : List Expr} {scope : Scope} {cl : List (Str × Addr)} {pos spos py : Pos} {y : Str} {Q : Flow → Shared → Prop}
    (h : wpAny (model prog w) A (eval iter env) (fun xv s₁ => ∃ sB n P p F m nw, Sf s₀ env.locals m nw sB ∧ Iters prog w A (fun C => compEnvC scope cl C env) tgt xv sB s₁ n P ∧ n ≤ 1000 ∧ Quiet prog w A (fun C => compEnvC scope cl C env) ifs elt P n p F (fun _ _ => False) sB ∧
      (∀ D s' ys k, Sf s₀ env.locals (fun z => if z = y then some (.ref D) else m z) ((D, lob ys k) :: nw) s' → sB.heap.get? D = none → Paired F ((List.range n).filter p) ys.toList → Q .next s')) E s)
    (hsw : swapsWith (.ListComp elt [⟨tgt, iter, ifs, 0⟩] scope pos) (some (.Name y py)) spos.line env = pure true := by rfl)
    (hy : env.kindOf y = some .local := by rfl) (hp : (env.scope.kind == .class || (env.scope.kind == .module && env.locals != env.globals)) = false := by rfl)
    (hclos : closureFor scope env = pure cl := by rfl) (hcell : ∀ y ∈ scope.names, y.2 ≠ .cell := by decide) (hkind : scope.kind = .function := by rfl)
    (hnames : ∀ y ∈ scope.names, y.2 = .local → scope.names.lookup y.1 = some .local := by decide)
    (hs : ∀ x, foldedSetIterable iter env x = pure x := by intro _; rfl) :
    wpAny (model prog w) A (exec (.Assign [.Name y py] (.ListComp elt [⟨tgt, iter, ifs, 0⟩] scope pos) spos) env) Q E s := by
  rw [exec_Assign_Name_used _ _ _ _ hsw]
  refine wpAny_bind (wpAny_standAt (wpAny_bind ?_))
  show wpAny _ A (do let _ ← comprehension (.ListComp elt [⟨tgt, iter, ifs, 0⟩] scope pos) scope env _ (newList []) false (eval iter env) (some (assign (.Name y py) env))) _ _ s
  refine wpAny_bind (wpAny_mono (wpAny_comprehension_free (use := some (assign (.Name y py) env)) (Q := fun _ s' => Q .next s') rfl hs hclos hkind hnames
    (wpAny_mono h (fun xv s₁ h₁ => ?_) fun _ _ e => e)) (fun _ s' hq => wpAny_pure (wpAny_pure hq)) fun _ _ e => e)
  obtain ⟨sB, n, P, p, F, m, nw, hF, hI, hn, hq, hQ⟩ := h₁
  refine hI _ _ fun I fp wr St s₂ W hst hfp hK hw => ?_
  refine cBlock (RR := fun acc C => compPost (model prog w) A E (some (assign (.Name y py) env)) (fun _ s' => Q .next s') acc C) W hn p F (fun _ _ => False) hcell hkind hst hfp hK hw hq ?_
  intro D C s' m' ys k hD hC hDC hnC hl hK' hP
  have hLC : env.locals ≠ C := by
    obtain ⟨o, _, _, ho, _⟩ := hF.ns
    intro q; rw [q, hC] at ho; cases ho
  have hLD : env.locals ≠ D := by
    obtain ⟨o, _, _, ho, _⟩ := hF.ns
    intro q; rw [q, hD] at ho; cases ho
  have F' := hF.add hK' hD hl
  show wpAny _ A (assign (.Name y py) env (.ref D)) _ _ _
  refine wpAny_assign_Name (wpAny_storeName_local hy F'.ns (fun h₂ hn₂ hs₂ => ?_) hp)
  refine ⟨m', hnC.sameBut hs₂ (Ne.symm hLC), fun h₃ hs₃ => ?_⟩
  refine hQ D _ ys k ?_ hD (hP.mono fun i y z => ?_)
  · have ne : ∀ b o, sB.heap.get? b = some o → b ≠ C := fun b o e q => by rw [q, hC] at e; cases e
    obtain ⟨hh, tt, rfl⟩ := F'.sm
    have hC0 : s₀.heap.get? C = none := hF.fresh hC
    refine ⟨⟨h₃, _, rfl⟩, ⟨hn₂.sameBut hs₃ hLC, fun b o e => ?_, F'.fr.above⟩, fun q hq => ?_⟩
    · refine hs₃.extBut b o (fun q => by rw [q, hC0] at e; cases e) ((F'.fr.set hn₂ hs₂).keep b o e)
    · have z := F'.nw.set hs₂ q hq
      refine ⟨hs₃.extBut _ _ (fun q' => ?_) z.1, z.2⟩
      rcases List.mem_cons.mp hq with rfl | hq
      · exact hDC q'
      · exact ne _ _ (hF.nw q hq).1 q'
  · rcases z with z | ⟨_, _, _, _, _, _, e⟩
    · exact z
    · exact e.elim

/-! what is gone over -/
theorem srcName {I : Addr} {fp wr : List Addr} {n : Nat} {Pv : Nat → Value → Prop} {St : Nat → Heap → Prop} {x : Str} {px : Pos} {ce : Addr → Env} (W : Walks prog w A I fp wr n Pv St)
    (live : ∀ i h, St i h → ∀ b ∈ wr, ∃ o, h.get? b = some o) (hl : ∀ C, (ce C).locals = C) (hx : ∀ C, (ce C).kindOf x = some .local) (hk : ∀ C, (ce C).scope.kind = .function) :
    Src prog w A I fp wr (.Name x px) ce n St (fun i m => ∃ v, Pv i v ∧ m x = some v) where
  sub := W.sub
  frame := W.frame
  live := live
  item := fun i C s m Q E hi hC hst hn hQ => by
    have hCw : C ∉ wr := fun h => hC (W.sub _ h)
    refine W.item i s _ _ hi hst fun v h₁ tk₁ hPv hst₁ hk₁ => ⟨v, rfl, ?_⟩
    show wpAny _ _ (pure ()) _ _ _
    refine wpAny_pure (wpAny_assign_Name (wpAny_storeName_local (hx C) (by rw [hl]; exact hn.at' fun o e => hk₁ _ o hCw e) (fun h₂ hn₂ hs₂ => ?_) (by simp [hk C])))
    rw [hl] at hn₂ hs₂
    exact hQ _ h₂ _ ⟨v, hPv, by simp⟩ hn₂ (W.frame _ _ _ hst₁ fun b hb o e => hs₂.extBut b o (fun h => hC (h ▸ hb)) e) fun b o hb hw e => hs₂.extBut b o hb (hk₁ b o hw e)
  done := W.done
  self := W.self

theorem itersList {x : Str} {px : Pos} {ce : Addr → Env} {ax : Addr} {items : Array Value} (hh : A.handled = none) (hL : s.heap.IsList ax items)
    (hl : ∀ C, (ce C).locals = C := by intro _; rfl) (hx : ∀ C, (ce C).kindOf x = some .local := by intro _; rfl) (hk : ∀ C, (ce C).scope.kind = .function := by intro _; rfl) :
    Iters prog w A ce (.Name x px) (.ref ax) s s items.size (fun i m => ∃ v, items[i]? = some v ∧ m x = some v) := fun Q E hQ => by
  refine wpAny_pyIter_list hL ?_
  have hne : ax ≠ s.heap.objs.size := by obtain ⟨o, ho, _⟩ := hL; exact Nat.ne_of_lt (Heap.lt_size ho)
  refine hQ _ _ _ _ _ (srcName (Walks.list hh s.heap.objs.size ax hne items) (fun i h hst b hb => ?_) hl hx hk) ⟨⟨_, Heap.get?_push_size _ rfl, rfl, rfl⟩, hL.push _⟩ (fun b hb => ?_) (kpush _ _) fun b o e q => ?_
  · obtain rfl := List.mem_singleton.mp hb; obtain ⟨o, ho, _⟩ := hst.1; exact ⟨o, ho⟩
  · show b < (s.heap.push _).objs.size
    rw [Heap.size_push]
    rcases List.mem_cons.mp hb with rfl | hb
    · exact Nat.lt_succ_self _
    · obtain rfl := List.mem_singleton.mp hb
      obtain ⟨o, ho, _⟩ := hL
      exact Nat.lt_succ_of_lt (Heap.lt_size ho)
  · obtain rfl := List.mem_singleton.mp q; exact absurd (Heap.lt_size e) (Nat.lt_irrefl _)

theorem itersTuple {x : Str} {px : Pos} {ce : Addr → Env} {ax : Addr} {items : Array Value} (hh : A.handled = none) (hL : s.heap.IsTuple ax items)
    (hl : ∀ C, (ce C).locals = C := by intro _; rfl) (hx : ∀ C, (ce C).kindOf x = some .local := by intro _; rfl) (hk : ∀ C, (ce C).scope.kind = .function := by intro _; rfl) :
    Iters prog w A ce (.Name x px) (.ref ax) s s items.size (fun i m => ∃ v, items[i]? = some v ∧ m x = some v) := fun Q E hQ => by
  refine wpAny_pyIter_tuple hL ?_
  have hne : ax ≠ s.heap.objs.size := by obtain ⟨o, ho, _⟩ := hL; exact Nat.ne_of_lt (Heap.lt_size ho)
  refine hQ _ _ _ _ _ (srcName (Walks.tuple hh s.heap.objs.size ax hne items) (fun i h hst b hb => ?_) hl hx hk) ⟨⟨_, Heap.get?_push_size _ rfl, rfl, rfl⟩, hL.push _⟩ (fun b hb => ?_) (kpush _ _) fun b o e q => ?_
  · obtain rfl := List.mem_singleton.mp hb; obtain ⟨o, ho, _⟩ := hst.1; exact ⟨o, ho⟩
  · show b < (s.heap.push _).objs.size
    rw [Heap.size_push]
    rcases List.mem_cons.mp hb with rfl | hb
    · exact Nat.lt_succ_self _
    · obtain rfl := List.mem_singleton.mp hb
      obtain ⟨o, ho, _⟩ := hL
      exact Nat.lt_succ_of_lt (Heap.lt_size ho)
  · obtain rfl := List.mem_singleton.mp q; exact absurd (Heap.lt_size e) (Nat.lt_irrefl _)

theorem src3 {I : Addr} {fp wr : List Addr} {n : Nat} {Pt : Nat → Array Value → Prop} {St : Nat → Heap → Prop} {Mid : Nat → Addr → Heap → Prop} {a b c : Str} {pa pb pc tp : Pos} {kk} {ce : Addr → Env} (hh : A.handled = none) (W : WalksU prog w A I fp wr n Pt St Mid)
    (h3 : ∀ i v, Pt i v → ∃ x y z, v = #[x, y, z])
    (live : ∀ i h, St i h → ∀ b ∈ wr, ∃ o, h.get? b = some o) (hl : ∀ C, (ce C).locals = C) (ha : ∀ C, (ce C).kindOf a = some .local) (hb : ∀ C, (ce C).kindOf b = some .local) (hc : ∀ C, (ce C).kindOf c = some .local)
    (hk : ∀ C, (ce C).scope.kind = .function) (ab : a ≠ b) (ac : a ≠ c) (bc : b ≠ c) :
    Src prog w A I fp wr (.Tuple [.Name a pa, .Name b pb, .Name c pc] kk tp) ce n St (fun i m => ∃ x y z, Pt i #[x, y, z] ∧ m a = some x ∧ m b = some y ∧ m c = some z) where
  sub := W.sub
  frame := W.frame
  live := live
  item := fun i C s m Q E hi hC hst hn hQ => by
    have hCw : C ∉ wr := fun h => hC (W.sub _ h)
    refine W.item i s _ _ hi hst fun T vals h₁ tk₁ hPv hT hmid hk₁ => ⟨.ref T, rfl, ?_⟩
    refine W.go _ _ _ i T _ _ _ hmid fun h₂ hst₂ hk₂ => ?_
    obtain ⟨x, y, z, rfl⟩ := h3 _ _ hPv
    have hT₂ : IsTup h₂ T #[x, y, z] := by obtain ⟨o, ho, r⟩ := hT; exact ⟨o, hk₂ _ _ (W.apart _ _ _ hmid) ho, r⟩
    refine assign_Tuple_tuple hh hT₂ rfl rfl fun h₃ he => ?_
    have he' : ∀ b o, h₂.get? b = some o → h₃.get? b = some o := fun b o e => he b o (Nat.ne_of_lt (Heap.lt_size e)) e
    have hn₃ : h₃.Ns C m := hn.at' fun o e => he' _ _ (hk₂ _ _ hCw (hk₁ _ _ hCw e))
    refine assignInOrder_cons (wpAny_assign_Name (wpAny_storeName_local (ha C) (by rw [hl]; exact hn₃) (fun h₄ hn₄ hs₄ => ?_) (by simp [hk C])))
    refine assignInOrder_cons (wpAny_assign_Name (wpAny_storeName_local (hb C) hn₄ (fun h₅ hn₅ hs₅ => ?_) (by simp [hk C])))
    refine assignInOrder_cons (wpAny_assign_Name (wpAny_storeName_local (hc C) hn₅ (fun h₆ hn₆ hs₆ => ?_) (by simp [hk C])))
    rw [hl] at hs₄ hs₅ hs₆ hn₆
    refine assignInOrder_nil ?_
    have up : ∀ b o, b ≠ C → h₂.get? b = some o → h₆.get? b = some o := fun b o hb e => hs₆.extBut b o hb (hs₅.extBut b o hb (hs₄.extBut b o hb (he' b o e)))
    exact hQ _ h₆ _ ⟨x, y, z, hPv, by simp [ab, ac], by simp [bc], by simp⟩ hn₆ (W.frame _ _ _ hst₂ fun b hb o e => up b o (fun h => hC (h ▸ hb)) e) fun b o hb hw e => up b o hb (hk₂ _ _ hw (hk₁ b o hw e))
  done := W.done
  self := W.self

theorem src2 {I : Addr} {fp wr : List Addr} {n : Nat} {Pt : Nat → Array Value → Prop} {St : Nat → Heap → Prop} {Mid : Nat → Addr → Heap → Prop} {a b : Str} {pa pb tp : Pos} {kk} {ce : Addr → Env} (hh : A.handled = none) (W : WalksU prog w A I fp wr n Pt St Mid)
    (h3 : ∀ i v, Pt i v → ∃ x y, v = #[x, y])
    (live : ∀ i h, St i h → ∀ b ∈ wr, ∃ o, h.get? b = some o) (hl : ∀ C, (ce C).locals = C) (ha : ∀ C, (ce C).kindOf a = some .local) (hb : ∀ C, (ce C).kindOf b = some .local)
    (hk : ∀ C, (ce C).scope.kind = .function) (ab : a ≠ b) :
    Src prog w A I fp wr (.Tuple [.Name a pa, .Name b pb] kk tp) ce n St (fun i m => ∃ x y, Pt i #[x, y] ∧ m a = some x ∧ m b = some y) where
  sub := W.sub
  frame := W.frame
  live := live
  item := fun i C s m Q E hi hC hst hn hQ => by
    have hCw : C ∉ wr := fun h => hC (W.sub _ h)
    refine W.item i s _ _ hi hst fun T vals h₁ tk₁ hPv hT hmid hk₁ => ⟨.ref T, rfl, ?_⟩
    refine W.go _ _ _ i T _ _ _ hmid fun h₂ hst₂ hk₂ => ?_
    obtain ⟨x, y, rfl⟩ := h3 _ _ hPv
    have hT₂ : IsTup h₂ T #[x, y] := by obtain ⟨o, ho, r⟩ := hT; exact ⟨o, hk₂ _ _ (W.apart _ _ _ hmid) ho, r⟩
    refine assign_Tuple_tuple hh hT₂ rfl rfl fun h₃ he => ?_
    have he' : ∀ b o, h₂.get? b = some o → h₃.get? b = some o := fun b o e => he b o (Nat.ne_of_lt (Heap.lt_size e)) e
    have hn₃ : h₃.Ns C m := hn.at' fun o e => he' _ _ (hk₂ _ _ hCw (hk₁ _ _ hCw e))
    refine assignInOrder_cons (wpAny_assign_Name (wpAny_storeName_local (ha C) (by rw [hl]; exact hn₃) (fun h₄ hn₄ hs₄ => ?_) (by simp [hk C])))
    refine assignInOrder_cons (wpAny_assign_Name (wpAny_storeName_local (hb C) hn₄ (fun h₅ hn₅ hs₅ => ?_) (by simp [hk C])))
    rw [hl] at hs₄ hs₅ hn₅
    refine assignInOrder_nil ?_
    have up : ∀ b o, b ≠ C → h₂.get? b = some o → h₅.get? b = some o := fun b o hb e => hs₅.extBut b o hb (hs₄.extBut b o hb (he' b o e))
    exact hQ _ h₅ _ ⟨x, y, hPv, by simp [ab], by simp⟩ hn₅ (W.frame _ _ _ hst₂ fun b hb o e => up b o (fun h => hC (h ▸ hb)) e) fun b o hb hw e => up b o hb (hk₂ _ _ hw (hk₁ b o hw e))
  done := W.done
  self := W.self
end
end
end Mine

-- part C3
namespace Mine
noncomputable section
def IntP (n : Int) (v : Value) : Prop := ∃ t, v = .int n t
def Ints (ns : List Int) (its : Array Value) : Prop := Paired IntP ns its.toList
theorem Ints.size {ps : List Int} {its : Array Value} (h : Ints ps its) : its.size = ps.length := by simpa using (Paired.length h).symm
theorem Ints.at {ps : List Int} {its : Array Value} (h : Ints ps its) {i : Nat} {v : Value} (hv : its[i]? = some v) : ∃ n t, ps[i]? = some n ∧ v = .int n t := by
  have hlt : i < its.size := (Array.getElem?_eq_some_iff.mp hv).1
  have hlt' : i < ps.length := by rw [← h.size]; exact hlt
  obtain ⟨v', h1, t, rfl⟩ := Paired.at h (List.getElem?_eq_getElem hlt')
  rw [Array.getElem?_toList] at h1
  rw [hv] at h1; cases h1
  exact ⟨_, t, List.getElem?_eq_getElem hlt', rfl⟩
theorem ints_are : ∀ {ns : List Int} {l : List Value}, Paired IntP ns l → IntsAre l ns
  | _, _, .nil => .nil
  | _, _, .cons ⟨t, e⟩ h => e ▸ .cons _ t (ints_are h)
theorem are_ints : ∀ {l : List Value} {ns : List Int}, IntsAre l ns → Paired IntP ns l
  | _, _, .nil => .nil
  | _, _, .cons n t h => .cons ⟨t, rfl⟩ (are_ints h)

/-- from places in a range to a filtered list -/
theorem paired_filter {α : Type} {F' : α → Value → Prop} {xs : List α} {q : α → Bool} {p : Nat → Bool} (hp : ∀ i a, xs[i]? = some a → p i = q a) :
    ∀ {ys : List Value}, Paired (fun i y => ∃ a, xs[i]? = some a ∧ F' a y) ((List.range xs.length).filter p) ys → Paired F' (xs.filter q) ys := by
  have e : ∀ (n : Nat), n ≤ xs.length → ∀ {ys : List Value}, Paired (fun i y => ∃ a, xs[i]? = some a ∧ F' a y) ((List.range n).filter p) ys → Paired F' ((xs.take n).filter q) ys := by
    intro n
    induction n with
    | zero => intro _ ys h; cases h; exact .nil
    | succ n ih =>
      intro hn ys h
      have hlt : n < xs.length := hn
      have hx : xs[n]? = some xs[n] := List.getElem?_eq_getElem hlt
      rw [range_succ_filter] at h
      rw [List.take_add_one, hx, List.filter_append]
      have hpq := hp n _ hx
      cases hc : p n
      · rw [hc] at h hpq
        simp [← hpq]
        exact ih (by omega) (by simpa using h)
      · rw [hc] at h hpq
        simp [← hpq]
        have : ∀ {l : List Nat} {ys : List Value}, Paired (fun i y => ∃ a, xs[i]? = some a ∧ F' a y) (l ++ [n]) ys → ∃ ys' y, ys = ys' ++ [y] ∧ Paired (fun i y => ∃ a, xs[i]? = some a ∧ F' a y) l ys' ∧ ∃ a, xs[n]? = some a ∧ F' a y := by
          intro l
          induction l with
          | nil => intro ys h; cases h with | cons g t => cases t; exact ⟨[], _, rfl, .nil, g⟩
          | cons x l ih2 => intro ys h; cases h with | cons g t => obtain ⟨ys', y, rfl, a1, a2⟩ := ih2 t; exact ⟨_ :: ys', y, rfl, .cons g a1, a2⟩
        obtain ⟨ys', y, rfl, a1, a, a2, a3⟩ := this (by simpa using h)
        rw [hx] at a2; cases a2
        exact PySem.Paired.snoc (ih (by omega) a1) a3
  intro ys h
  have := e xs.length (Nat.le_refl _) h
  rwa [List.take_length] at this

section
variable {prog : Program} {w : World} {A : Around} {E : Value → Shared → Prop} {s s₀ : Shared} {env : Env} {Q : Value → Shared → Prop} {mg mb : Str → Option Value} {L : Addr} {m : Str → Option Value} {nw : List (Addr × Obj)}

theorem fnCallC {i : Nat} {a : Addr} {args : List Value} (G : Gd mg mb s.heap) (hf : IsFn s.heap i a) (hroom : A.depth < recursionLimit)
    (hbind : ∀ pm cd doc, bindArgs (Calls.docDef (nam (pst i)) (prm (pst i)) (bdy (pst i)) (scp (pst i)) pm cd doc) ⟨args, []⟩ = pure (((prm (pst i)).args.map (·.arg)).zip args))
    (hkind : ∀ x ∈ ((prm (pst i)).args.map (·.arg)).zip args, (scp (pst i)).names.lookup x.1 = some .local ∨ ((scp (pst i)).names.lookup x.1 = some .cell ∧ ((cellsFrom (s.heap.objs.size + 1) (scp (pst i)).names []).lookup x.1).isSome = true))
    (hnd : ((cellsFrom 0 (scp (pst i)).names []).map (·.1)).Nodup)
    (h : ∀ cd s₁ cells, Sf s s.heap.objs.size (bindL (envOfC (nam (pst i)) (scp (pst i)) s.heap.objs.size a cd).kindOf (((prm (pst i)).args.map (·.arg)).zip args) fun _ => none) cells s₁ →
      CellsAre (bindC (envOfC (nam (pst i)) (scp (pst i)) s.heap.objs.size a cd).kindOf (((prm (pst i)).args.map (·.arg)).zip args) fun _ => none) (cellsFrom (s.heap.objs.size + 1) (scp (pst i)).names []) cells →
      wpAny (model prog w) (A.deeper (envOfC (nam (pst i)) (scp (pst i)) s.heap.objs.size a cd)) (execs (bdy (pst i)) (envOfC (nam (pst i)) (scp (pst i)) s.heap.objs.size a cd))
        (fun f s' => Q (match f with | .ret v => v | _ => .none) s') (fun _ _ => False) s₁)
    (hco : (scp (pst i)).isCoroutine = false) (hgen : (scp (pst i)).isGenerator = false) (hk : (scp (pst i)).kind = .function) :
    wpAny (model prog w) A (call (.ref a) args) Q E s := by
  obtain ⟨o, pm, code, doc, ho, hd, hc⟩ := hf
  exact wpAny_call (call_cellsN_ret hroom ho hd G.lim hc (hbind _ _ _) hkind hnd (fun h₁ tk cells F N C => h _ _ cells ⟨⟨_, _, rfl⟩, F, N⟩ C) hco hgen hk)

theorem ldCellS {M : Model} {x : Str} {pos : Pos} {c : Addr} {o : Obj} {v : Value} (F : Sf s₀ L m nw s) (hc : env.cells.lookup x = some c) (hm : (c, o) ∈ nw) (hd : o.data = .cell (some v)) (h : Q v s)
    (hk : env.scope.kind = .function := by rfl) (hl : env.kindOf x = some .cell := by rfl) (hdb : (x == ("__debug__" : Str)) = false := by decide) : wpAny M A (eval (.Name x pos) env) Q E s :=
  wpAny_Name (wpAny_loadName_cell hk hl hc ⟨o, F.get hm, hd⟩ h) hdb
theorem ldCellC {M : Model} {x : Str} {pos : Pos} {c : Addr} {v : Value} (hx : s.heap.IsCell c (some v)) (hc : env.cells.lookup x = some c) (h : Q v s)
    (hk : env.scope.kind = .function := by rfl) (hl : env.kindOf x = some .cell := by rfl) (hdb : (x == ("__debug__" : Str)) = false := by decide) : wpAny M A (eval (.Name x pos) env) Q E s :=
  wpAny_Name (wpAny_loadName_cell hk hl hc hx h) hdb

theorem stCellS {M : Model} {x : Str} {c : Addr} {o : Obj} {v₀ : Option Value} {v : Value} {own rest : List (Addr × Obj)} {Q : Unit → Shared → Prop} (F : Sf s₀ L m (own ++ (c, o) :: rest) s)
    (hc : env.cells.lookup x = some c) (hd : o.data = .cell v₀) (h1 : ∀ p ∈ own, p.1 ≠ c) (h2 : ∀ p ∈ rest, p.1 ≠ c)
    (h : ∀ s' o', Sf s₀ L m (own ++ (c, o') :: rest) s' → o'.data = .cell (some v) → Q () s')
    (hk : env.scope.kind = .function := by rfl) (hl : env.kindOf x = some .cell := by rfl) : wpAny M A (storeName env x v) Q E s := by
  have hmem := F.nw (c, o) (List.mem_append_right _ (.head _))
  refine wpAny_storeName_cell hk hl hc ⟨o, hmem.1, hd⟩ fun h' hv hs => ?_
  obtain ⟨o', ho', hd'⟩ := hv
  obtain ⟨a, b, rfl⟩ := F.sm
  refine h _ o' ⟨⟨h', _, rfl⟩, ⟨F.fr.ns.sameBut hs (Ne.symm hmem.2.1), fun b ob e => (hs.2 b (fun q => ?_)).trans (F.fr.keep b ob e), F.fr.above⟩, F.nw.setAt h1 h2 hs ho'⟩ hd'
  rw [q, hmem.2.2] at e; cases e

theorem tests1 {c : Expr} {ce : Env} {Q : Bool → Shared → Prop} (h : wpAny (model prog w) A (isTrue c ce (eval c ce)) Q E s) : wpAny (model prog w) A (tests [c] ce) Q E s := by
  show wpAny _ A (forIn [c] true _) _ _ s
  simp only [List.forIn_cons, List.forIn_nil, if_true]
  refine wpAny_bind (wpAny_bind (wpAny_mono h (fun ok s₁ h₁ => wpAny_pure (wpAny_pure h₁)) fun _ _ x => x))
theorem tests0 {ce : Env} {Q : Bool → Shared → Prop} (h : Q true s) : wpAny (model prog w) A (tests [] ce) Q E s := wpAny_pure h

theorem fdivS {M : Model} {a b : Int} {t u : Tok} (hb : 0 < b) (h1 : 0 ≤ a) (h2 : a < 100000) (h3 : b < 100000) (h : Q (.int (a / b) s.toks) { s with toks := s.toks + 1 }) : wpAny (model prog w) A (binaryOp .FloorDiv (.int a t) (.int b u)) Q E s := by
  refine floordiv_int (by omega) ?_ (.inl (PyProof.noPylong_small (by omega)))
  rw [Int.fdiv_eq_ediv_of_nonneg _ (by omega)]; exact h
theorem fmodS {a b : Int} {t u : Tok} (hb : 0 < b) (h : Q (.int (a % b) s.toks) { s with toks := s.toks + 1 }) : wpAny (model prog w) A (binaryOp .Mod (.int a t) (.int b u)) Q E s := by
  refine mod_int' (by omega) ?_
  rw [Int.fmod_eq_emod_of_nonneg _ (by omega)]; exact h
end

def tup3 (a b c : Value) : Obj := { cls := .type "tuple", data := .seq #[a, b, c] }
/-- the object of a spot -/
def SpotO (n : Int) (o : Obj) : Prop := ∃ t1 t2 t3, o = tup3 (.int (red n) t1) (.int (green n) t2) (.int (blue n) t3)
/-- a list's item that is a spot -/
def SpotV (h₀ h : Heap) (n : Int) (v : Value) : Prop := ∃ T o, v = .ref T ∧ h₀.get? T = none ∧ h.get? T = some o ∧ SpotO n o
end
end Mine

-- part L7
namespace Mine
noncomputable section
section
variable {prog : Program} {w : World} {A : Around} {E : Value → Shared → Prop} {s : Shared} {Q : Value → Shared → Prop} {mg mb : Str → Option Value}

local macro_rules | `(tactic| walk_at "cw") => `(tactic| first
  | ((with_reducible show wpAny _ _ (eval (.Name _ _) _) _ _ _); refine ldLoc (by assumption) (by assumption) ?_)
  | ((with_reducible show wpAny _ _ (eval (.BinOp _ _ _ _) _) _ _ _); refine wpAny_BinOp ?_)
  | ((with_reducible show wpAny _ _ (eval (.Constant (.int _) _ _) _) _ _ _); refine wpAny_Constant_int ?_)
  | ((with_reducible show wpAny _ _ (binaryOp .FloorDiv (.int _ _) (.int _ _)) _ _ _); refine fdivS (M := model prog w) (by decide) (by omega) (by omega) (by decide) ?_)
  | ((with_reducible show wpAny _ _ (binaryOp .Mod (.int _ _) (.int _ _)) _ _ _); refine fmodS (by decide) ?_)
  | ((with_reducible show wpAny _ _ (truthy (.bool _)) _ _ _); refine wpAny_truthy_bool ?_))

def spotsOf (ns : List Int) (side : Int) : List Int := ns.filter (fun n => n / 512 == side)

set_option maxHeartbeats 2000000 in
theorem spots_call {a na : Addr} {its : Array Value} {ns : List Int} {side : Int} {t : Tok} (G : Gd mg mb s.heap) (hf : IsFn s.heap 7 a) (hh : A.handled = none) (hroom : A.depth < recursionLimit)
    (hl : s.heap.IsList na its) (hi : Ints ns its) (hr : ∀ n ∈ ns, 0 ≤ n ∧ n < 1024) (hz : ns.length ≤ 100)
    (h : ∀ s' D ys k, Keeps s s' → s.heap.get? D = none → s'.heap.get? D = some (lob ys k) → Paired (SpotV s.heap s'.heap) (spotsOf ns side) ys.toList → Q (.ref D) s') :
    wpAny (model prog w) A (call (.ref a) [.ref na, .int side t]) Q E s := by
  refine fnCallC G hf hroom (fun _ _ _ => by rfl) ?_ (by decide) (fun cd s₁ cells F C => ?_) (by rfl) (by rfl) (by rfl)
  · intro x hx
    have hx' : x = (("numbers" : Str), Value.ref na) ∨ x = (("side" : Str), Value.int side t) := by
      have : x ∈ [(("numbers" : Str), Value.ref na), (("side" : Str), Value.int side t)] := hx
      simpa using this
    rcases hx' with rfl | rfl
    · exact .inl (by rfl)
    · exact .inr ⟨by rfl, by rfl⟩
  obtain ⟨o, rfl, hod⟩ := CellsAre.one (n := ("side" : Str)) (c := s.heap.objs.size + 1) (cells := cells) C
  have hod' : o.data = .cell (some (.int side t)) := hod
  have hcell : s₁.heap.IsCell (s.heap.objs.size + 1) (some (.int side t)) := ⟨o, F.get (by simp), hod'⟩
  show wpAny _ _ (execs (bdy (pst 7)) _) _ _ _
  refine wpAny_execs_cons (wpAny_Return_some (compEval (cl := [(("side" : Str), s.heap.objs.size + 1)]) (ldS F (by rfl) ?_)))
  have hl₁ : s₁.heap.IsList na its := by obtain ⟨o, ho, r⟩ := hl; exact ⟨o, F.up _ _ ho, r⟩
  have hsz := hi.size
  refine ⟨s₁, its.size, _, (fun i => ((ns.getD i 0) / 512 == side)), fun _ _ => False, fun i o => ∃ n, ns[i]? = some n ∧ SpotO n o, itersList hh hl₁, by omega, ⟨?_, ?_⟩, ?_⟩
  · rintro C i s₃ m₃ E' hlt ⟨v, hv, hm⟩ hn hK hC
    obtain ⟨n, t, hn', rfl⟩ := hi.at hv
    have hnr := hr n (List.mem_of_getElem? hn')
    refine tests1 (wpAny_isTrue_Compare1 ?_)
    repeat walk_at "cw"
    have hcell₃ := hcell.keeps (kup hK)
    refine ldCellC (by exact hcell₃) (by rfl) (eq_int ?_)
    repeat walk_at "cw"
    exact ⟨by simp [List.getD_eq_getElem?_getD, hn'], ⟨_, _, rfl, fun _ _ e => e⟩⟩
  · rintro C i s₃ m₃ E' hlt hp ⟨v, hv, hm⟩ hn hK hC
    obtain ⟨n, t, hn', rfl⟩ := hi.at hv
    have hnr := hr n (List.mem_of_getElem? hn')
    refine tup3S ?_
    repeat walk_at "cw"
    intro T s' k hT0 hT
    exact ⟨.inr ⟨T, _, rfl, hT0, hT, n, hn', _, _, _, rfl⟩, ktrans ⟨_, _, rfl, fun _ _ e => e⟩ k⟩
  · intro D s' ys k hK hD hl' hP
    have hK' := ktrans F.keeps hK
    have fr : ∀ b, s₁.heap.get? b = none → s.heap.get? b = none := fun b hb => F.fresh hb
    refine h s' D ys k hK' (fr _ hD) hl' ?_
    refine paired_filter (p := fun i => ((ns.getD i 0) / 512 == side)) (xs := ns) (fun i n hn => by simp [List.getD_eq_getElem?_getD, hn]) (by
      rw [← hsz]
      exact hP.mono fun i y z => by
        rcases z with z | ⟨T, o, rfl, z2, z3, n, z4, z5⟩
        · exact z.elim
        · exact ⟨n, z4, T, o, rfl, fr _ z2, z3, z5⟩)
end
end
end Mine

-- part FL2
namespace Mine
noncomputable section

/-- eighths, written out -/
def feT : List UInt64 := [0, 4593671619917905920, 4598175219545276416, 4600427019358961664, 4602678819172646912, 4603804719079489536, 4604930618986332160, 4606056518893174784, 4607182418800017408]
def fe (n : Nat) : UInt64 := feT.getD n 0
theorem fx_tab : ((List.range 8).all fun n => fx (n : Int) == fe n) = true := by decide +kernel
theorem fy_tab : ((List.range 8).all fun n => fy (n : Int) == fe (8 - n)) = true := by decide +kernel
theorem cmp_tab : ((List.range 9).all fun a => (List.range 9).all fun b => Float64.cmp (fe a) (fe b) == some (compare a b)) = true := by decide +kernel
theorem sub_tab : ((List.range 9).all fun a => (List.range (a + 1)).all fun b => Float64.sub (fe a) (fe b) == fe (a - b)) = true := by decide +kernel
theorem zero_tab : ((List.range 9).all fun a => Float64.isZero (fe a) == (a == 0)) = true := by decide +kernel
def lightOk (mx mn : Nat) : Bool := if fle (Float64.div (Float64.add (fe mx) (fe mn)) 4611686018427387904) 4602678819172646912 then !Float64.isZero (Float64.add (fe mx) (fe mn))
     else !Float64.isZero (Float64.sub (Float64.sub 4611686018427387904 (fe mx)) (fe mn))
theorem light_tab : ((List.range 9).all fun a => (List.range a).all fun b => lightOk a b) = true := by decide +kernel

theorem fx_fe {n : Nat} (h : n < 8) : fx (n : Int) = fe n := by simpa using List.all_eq_true.mp fx_tab n (List.mem_range.mpr h)
theorem fy_fe {n : Nat} (h : n < 8) : fy (n : Int) = fe (8 - n) := by simpa using List.all_eq_true.mp fy_tab n (List.mem_range.mpr h)
theorem cmp_fe {a b : Nat} (ha : a < 9) (hb : b < 9) : Float64.cmp (fe a) (fe b) = some (compare a b) := by
  simpa using List.all_eq_true.mp (List.all_eq_true.mp cmp_tab a (List.mem_range.mpr ha)) b (List.mem_range.mpr hb)
theorem sub_fe {a b : Nat} (ha : a < 9) (hb : b ≤ a) : Float64.sub (fe a) (fe b) = fe (a - b) := by
  simpa using List.all_eq_true.mp (List.all_eq_true.mp sub_tab a (List.mem_range.mpr ha)) b (List.mem_range.mpr (by omega))
theorem zero_fe {a : Nat} (ha : a < 9) : Float64.isZero (fe a) = (a == 0) := by simpa using List.all_eq_true.mp zero_tab a (List.mem_range.mpr ha)
theorem light_fe {a b : Nat} (ha : a < 9) (hb : b < a) : lightOk a b = true := by
  simpa using List.all_eq_true.mp (List.all_eq_true.mp light_tab a (List.mem_range.mpr ha)) b (List.mem_range.mpr hb)

theorem fgt_fe {a b : Nat} (ha : a < 9) (hb : b < 9) : fgt (fe a) (fe b) = decide (b < a) := by
  unfold fgt; rw [cmp_fe ha hb]; rcases Nat.lt_trichotomy a b with h | h | h
  · rw [Nat.compare_eq_lt.mpr h]; simp; omega
  · subst h; simp
  · rw [Nat.compare_eq_gt.mpr h]; simp; omega
theorem flt_fe {a b : Nat} (ha : a < 9) (hb : b < 9) : flt (fe a) (fe b) = decide (a < b) := by
  unfold flt; rw [cmp_fe ha hb]; rcases Nat.lt_trichotomy a b with h | h | h
  · rw [Nat.compare_eq_lt.mpr h]; simp; omega
  · subst h; simp
  · rw [Nat.compare_eq_gt.mpr h]; simp; omega
theorem feq_fe {a b : Nat} (ha : a < 9) (hb : b < 9) : feq (fe a) (fe b) = decide (a = b) := by
  unfold feq; rw [cmp_fe ha hb]; rcases Nat.lt_trichotomy a b with h | h | h
  · rw [Nat.compare_eq_lt.mpr h]; simp; omega
  · subst h; simp
  · rw [Nat.compare_eq_gt.mpr h]; simp; omega
def mx3 (a b c : Nat) : Nat := max (max a b) c
def mn3 (a b c : Nat) : Nat := min (min a b) c
theorem fmax_fe {a b c : Nat} (ha : a < 9) (hb : b < 9) (hc : c < 9) : fmax3 (fe a) (fe b) (fe c) = fe (mx3 a b c) := by
  unfold fmax3; rw [fgt_fe hb ha, fgt_fe hc hb, fgt_fe hc ha]
  simp only [decide_eq_true_eq, mx3]
  split <;> split <;> (congr 1; omega)
theorem fmin_fe {a b c : Nat} (ha : a < 9) (hb : b < 9) (hc : c < 9) : fmin3 (fe a) (fe b) (fe c) = fe (mn3 a b c) := by
  unfold fmin3; rw [flt_fe hb ha, flt_fe hc hb, flt_fe hc ha]
  simp only [decide_eq_true_eq, mn3]
  split <;> split <;> (congr 1; omega)

/-- the hue by what is lacking from the full part -/
def hueD (u v w rg : Nat) : UInt64 :=
  let rc := Float64.div (fe u) (fe rg)
  let gc := Float64.div (fe v) (fe rg)
  let bc := Float64.div (fe w) (fe rg)
  if u = 0 then fin (Float64.sub bc gc)
  else if v = 0 then fin (Float64.sub (Float64.add 4611686018427387904 rc) bc)
  else fin (Float64.sub (Float64.add 4616189618054758400 gc) rc)
theorem hsvH_fe {a b c : Nat} (ha : a < 9) (hb : b < 9) (hc : c < 9) : hsvH (fe a) (fe b) (fe c) =
    if mn3 a b c = mx3 a b c then f0 else hueD (mx3 a b c - a) (mx3 a b c - b) (mx3 a b c - c) (mx3 a b c - mn3 a b c) := by
  have h1 : mx3 a b c < 9 := by unfold mx3; omega
  have h2 : mn3 a b c ≤ mx3 a b c := by unfold mx3 mn3; omega
  have e1 : a ≤ mx3 a b c := by unfold mx3; omega
  have e2 : b ≤ mx3 a b c := by unfold mx3; omega
  have e3 : c ≤ mx3 a b c := by unfold mx3; omega
  have h3 : mn3 a b c < 9 := by omega
  unfold hsvH
  simp only [fmax_fe ha hb hc, fmin_fe ha hb hc, feq_fe h3 h1, sub_fe h1 h2, decide_eq_true_eq]
  split
  · rfl
  · unfold hueOf hueD
    simp only [sub_fe h1 e1, sub_fe h1 e2, sub_fe h1 e3, feq_fe ha h1, feq_fe hb h1, decide_eq_true_eq]
    have f1 : (a = mx3 a b c) ↔ (mx3 a b c - a = 0) := by omega
    have f2 : (b = mx3 a b c) ↔ (mx3 a b c - b = 0) := by omega
    simp only [f1, f2]

/-- the six hueSides of the ring -/
def hueSides (rg : Nat) (P : Nat → Nat → Nat → Bool) : Bool :=
  (List.range (rg + 1)).all fun y => P 0 rg y && P 0 y rg && P rg 0 y && P y 0 rg && P rg y 0 && P y rg 0
def hueRingOk (rg u v w : Nat) : Bool :=
  let p := place ((rg : Int) - u) ((rg : Int) - v) ((rg : Int) - w)
  (hueD u v w rg == F p) && isPlace p && ((place u v w + 1260) % 2520 == p)
theorem hueRing1 : hueSides 1 (hueRingOk 1) = true := by decide +kernel
theorem hueRing2 : hueSides 2 (hueRingOk 2) = true := by decide +kernel
theorem hueRing3 : hueSides 3 (hueRingOk 3) = true := by decide +kernel
theorem hueRing4 : hueSides 4 (hueRingOk 4) = true := by decide +kernel
theorem hueRing5 : hueSides 5 (hueRingOk 5) = true := by decide +kernel
theorem hueRing6 : hueSides 6 (hueRingOk 6) = true := by decide +kernel
theorem hueRing7 : hueSides 7 (hueRingOk 7) = true := by decide +kernel
end
end Mine

-- part FL3
namespace Mine
noncomputable section
theorem hueSides_at {rg : Nat} {P : Nat → Nat → Nat → Bool} (h : hueSides rg P = true) {u v w : Nat} (hu : u ≤ rg) (hv : v ≤ rg) (hw : w ≤ rg) (h0 : u = 0 ∨ v = 0 ∨ w = 0) (h1 : u = rg ∨ v = rg ∨ w = rg) : P u v w = true := by
  have at' : ∀ y, y ≤ rg → P 0 rg y = true ∧ P 0 y rg = true ∧ P rg 0 y = true ∧ P y 0 rg = true ∧ P rg y 0 = true ∧ P y rg 0 = true := fun y hy => by
    have z := List.all_eq_true.mp h y (List.mem_range.mpr (by omega))
    simp only [Bool.and_eq_true] at z
    exact ⟨z.1.1.1.1.1, z.1.1.1.1.2, z.1.1.1.2, z.1.1.2, z.1.2, z.2⟩
  rcases h0 with rfl | rfl | rfl <;> rcases h1 with h1 | h1 | h1
  · subst h1
    obtain rfl : v = 0 := by omega
    obtain rfl : w = 0 := by omega
    exact (at' 0 (by omega)).1
  · subst h1; exact (at' w hw).1
  · subst h1; exact (at' v hv).2.1
  · subst h1; exact (at' w hw).2.2.1
  · subst h1
    obtain rfl : u = 0 := by omega
    obtain rfl : w = 0 := by omega
    exact (at' 0 (by omega)).1
  · subst h1; exact (at' u hu).2.2.2.1
  · subst h1; exact (at' v hv).2.2.2.2.1
  · subst h1; exact (at' u hu).2.2.2.2.2
  · subst h1
    obtain rfl : u = 0 := by omega
    obtain rfl : v = 0 := by omega
    exact (at' 0 (by omega)).1
theorem hueRing_all {rg : Nat} (h1 : 1 ≤ rg) (h7 : rg ≤ 7) : hueSides rg (hueRingOk rg) = true := by
  match rg, h1, h7 with
  | 1, _, _ => exact hueRing1
  | 2, _, _ => exact hueRing2
  | 3, _, _ => exact hueRing3
  | 4, _, _ => exact hueRing4
  | 5, _, _ => exact hueRing5
  | 6, _, _ => exact hueRing6
  | 7, _, _ => exact hueRing7
theorem placeShift (r g b d : Int) : place (r + d) (g + d) (b + d) = place r g b := by
  have hl : least3 (r + d) (g + d) (b + d) = least3 r g b + d := by unfold least3; omega
  have hf : full3 (r + d) (g + d) (b + d) = full3 r g b := by unfold full3 most3 least3; omega
  have ha : aim3 (r + d) (g + d) (b + d) = aim3 r g b := by
    unfold aim3; rw [hl]
    have e1 : r + d - (least3 r g b + d) = r - least3 r g b := by omega
    have e2 : g + d - (least3 r g b + d) = g - least3 r g b := by omega
    have e3 : b + d - (least3 r g b + d) = b - least3 r g b := by omega
    rw [e1, e2, e3]
  unfold place steps3; rw [hf, ha]
theorem placeZero : place 0 0 0 = 0 := by decide +kernel
theorem placeGrey (r : Int) : place r r r = 0 := by
  have := placeShift 0 0 0 r
  rw [placeZero, Int.zero_add] at this; exact this
theorem F_zero : F 0 = f0 ∧ isPlace 0 = true := by decide +kernel

theorem hsv_factN {r g b : Nat} (hr : r < 8) (hg : g < 8) (hb : b < 8) : hsvOk (fx r) (fx g) (fx b) = true ∧ hsvH (fx r) (fx g) (fx b) = F (place r g b) ∧ isPlace (place r g b) = true := by
  rw [fx_fe hr, fx_fe hg, fx_fe hb]
  have hm : mx3 r g b < 9 := by unfold mx3; omega
  have hl : mn3 r g b ≤ mx3 r g b := by unfold mx3 mn3; omega
  have hl9 : mn3 r g b < 9 := by omega
  have hsz : mx3 r g b - mn3 r g b < 9 := by omega
  rw [hsvH_fe (by omega) (by omega) (by omega)]
  unfold hsvOk
  simp only [fmax_fe (show r < 9 by omega) (show g < 9 by omega) (show b < 9 by omega), fmin_fe (show r < 9 by omega) (show g < 9 by omega) (show b < 9 by omega), feq_fe hl9 hm, sub_fe hm hl, zero_fe hm, zero_fe hsz]
  by_cases h : mn3 r g b = mx3 r g b
  · have e1 : g = r := by unfold mx3 mn3 at h; omega
    have e2 : b = r := by unfold mx3 mn3 at h; omega
    rw [if_pos h, e1, e2, placeGrey]
    refine ⟨by simp [mx3, mn3], F_zero.1.symm, F_zero.2⟩
  · rw [if_neg h]
    have z := hueSides_at (hueRing_all (rg := mx3 r g b - mn3 r g b) (by omega) (by unfold mx3 mn3; omega)) (u := mx3 r g b - r) (v := mx3 r g b - g) (w := mx3 r g b - b)
      (by unfold mx3 mn3; omega) (by unfold mx3 mn3; omega) (by unfold mx3 mn3; omega) (by unfold mx3; omega) (by unfold mx3 mn3; omega)
    unfold hueRingOk at z
    have c1 : ((mx3 r g b - mn3 r g b : Nat) : Int) - ((mx3 r g b - r : Nat) : Int) = (r : Int) + -((mn3 r g b : Nat) : Int) := by unfold mx3 mn3; omega
    have c2 : ((mx3 r g b - mn3 r g b : Nat) : Int) - ((mx3 r g b - g : Nat) : Int) = (g : Int) + -((mn3 r g b : Nat) : Int) := by unfold mx3 mn3; omega
    have c3 : ((mx3 r g b - mn3 r g b : Nat) : Int) - ((mx3 r g b - b : Nat) : Int) = (b : Int) + -((mn3 r g b : Nat) : Int) := by unfold mx3 mn3; omega
    rw [c1, c2, c3, placeShift] at z
    simp only [Bool.and_eq_true, beq_iff_eq] at z
    refine ⟨?_, z.1.1, z.1.2⟩
    have q1 : mx3 r g b ≠ 0 := by omega
    have q2 : mx3 r g b - mn3 r g b ≠ 0 := by omega
    simp [h, q1]; omega

theorem hls_factN {r g b : Nat} (hr : r < 8) (hg : g < 8) (hb : b < 8) : hlsOk (fy r) (fy g) (fy b) = true ∧ hsvH (fy r) (fy g) (fy b) = F (turned r g b) ∧ isPlace (turned r g b) = true := by
  rw [fy_fe hr, fy_fe hg, fy_fe hb]
  have hr9 : 8 - r < 9 := by omega
  have hg9 : 8 - g < 9 := by omega
  have hb9 : 8 - b < 9 := by omega
  have hM : mx3 (8 - r) (8 - g) (8 - b) = 8 - mn3 r g b := by unfold mx3 mn3; omega
  have hN : mn3 (8 - r) (8 - g) (8 - b) = 8 - mx3 r g b := by unfold mx3 mn3; omega
  have b1 : mx3 r g b < 8 := by unfold mx3; omega
  have b2 : mn3 r g b ≤ mx3 r g b := by unfold mx3 mn3; omega
  have hm : 8 - mn3 r g b < 9 := by omega
  have hl : 8 - mx3 r g b ≤ 8 - mn3 r g b := by omega
  have hl9 : 8 - mx3 r g b < 9 := by omega
  have hd : 8 - mn3 r g b - (8 - mx3 r g b) = mx3 r g b - mn3 r g b := by omega
  have hsz : mx3 r g b - mn3 r g b < 9 := by omega
  rw [hsvH_fe hr9 hg9 hb9, hM, hN, hd]
  unfold hlsOk
  simp only [fmax_fe hr9 hg9 hb9, fmin_fe hr9 hg9 hb9, hM, hN, feq_fe hl9 hm, sub_fe hm hl, hd, zero_fe hsz]
  by_cases h : mn3 r g b = mx3 r g b
  · have e1 : g = r := by unfold mx3 mn3 at h; omega
    have e2 : b = r := by unfold mx3 mn3 at h; omega
    rw [if_pos (show 8 - mx3 r g b = 8 - mn3 r g b by omega)]
    have ht : turned r g b = 0 := by unfold turned; rw [if_neg (by rw [e1, e2]; unfold least3 most3; omega)]
    rw [ht]
    refine ⟨?_, F_zero.1.symm, F_zero.2⟩
    rw [h]; simp
  · rw [if_neg (show ¬ (8 - mx3 r g b = 8 - mn3 r g b) by omega)]
    have z := hueSides_at (hueRing_all (rg := mx3 r g b - mn3 r g b) (by omega) (by omega)) (u := 8 - mn3 r g b - (8 - r)) (v := 8 - mn3 r g b - (8 - g)) (w := 8 - mn3 r g b - (8 - b))
      (by unfold mx3 mn3; omega) (by unfold mx3 mn3; omega) (by unfold mx3 mn3; omega) (by unfold mn3; omega) (by unfold mx3 mn3; omega)
    unfold hueRingOk at z
    have c1 : ((8 - mn3 r g b - (8 - r) : Nat) : Int) = (r : Int) + -((mn3 r g b : Nat) : Int) := by unfold mn3; omega
    have c2 : ((8 - mn3 r g b - (8 - g) : Nat) : Int) = (g : Int) + -((mn3 r g b : Nat) : Int) := by unfold mn3; omega
    have c3 : ((8 - mn3 r g b - (8 - b) : Nat) : Int) = (b : Int) + -((mn3 r g b : Nat) : Int) := by unfold mn3; omega
    rw [c1, c2, c3, placeShift] at z
    simp only [Bool.and_eq_true, beq_iff_eq] at z
    have ht : turned r g b = (place r g b + 1260) % 2520 := by unfold turned; rw [if_pos (by unfold least3 most3; unfold mx3 mn3 at h; omega)]
    rw [ht, z.2]
    refine ⟨?_, z.1.1, z.1.2⟩
    have q0 : ¬ (8 - mx3 r g b = 8 - mn3 r g b) := by omega
    have q2 : ¬ (mx3 r g b - mn3 r g b = 0) := by omega
    have q3 := light_fe hm (show 8 - mx3 r g b < 8 - mn3 r g b by omega)
    unfold lightOk at q3
    simp only [decide_eq_false q0, Bool.false_or, q3, Bool.and_true, Bool.not_eq_true', beq_eq_false_iff_ne]
    exact q2
end
end Mine

-- part L6
namespace Mine
noncomputable section

/-- the ring's walk, as the loop sees it -/
def ringOk (r g b : Int) : Bool :=
  (ring (full3 r g b) (steps3 r g b) == aim3 r g b) && (steps3 r g b ≤ 45) && ((List.range (steps3 r g b)).all fun (k : Nat) =>
    (ring (full3 r g b) k != aim3 r g b) && decide (0 < full3 r g b) && decide ((k : Int) / full3 r g b < 6) && ((ring (full3 r g b) k).length == 3) )
theorem ringTab0 : hueSides 0 (fun u v w => ringOk u v w) = true := by decide +kernel
theorem ringTab1 : hueSides 1 (fun u v w => ringOk u v w) = true := by decide +kernel
theorem ringTab2 : hueSides 2 (fun u v w => ringOk u v w) = true := by decide +kernel
theorem ringTab3 : hueSides 3 (fun u v w => ringOk u v w) = true := by decide +kernel
theorem ringTab4 : hueSides 4 (fun u v w => ringOk u v w) = true := by decide +kernel
theorem ringTab5 : hueSides 5 (fun u v w => ringOk u v w) = true := by decide +kernel
theorem ringTab6 : hueSides 6 (fun u v w => ringOk u v w) = true := by decide +kernel
theorem ringTab7 : hueSides 7 (fun u v w => ringOk u v w) = true := by decide +kernel
theorem ringTab {rg : Nat} (h : rg ≤ 7) : hueSides rg (fun u v w => ringOk u v w) = true := by
  match rg, h with
  | 0, _ => exact ringTab0
  | 1, _ => exact ringTab1
  | 2, _ => exact ringTab2
  | 3, _ => exact ringTab3
  | 4, _ => exact ringTab4
  | 5, _ => exact ringTab5
  | 6, _ => exact ringTab6
  | 7, _ => exact ringTab7
theorem ring_shift (r g b d : Int) : ringOk (r + d) (g + d) (b + d) = ringOk r g b := by
  have hl : least3 (r + d) (g + d) (b + d) = least3 r g b + d := by unfold least3; omega
  have hf : full3 (r + d) (g + d) (b + d) = full3 r g b := by unfold full3 most3 least3; omega
  have ha : aim3 (r + d) (g + d) (b + d) = aim3 r g b := by
    unfold aim3; rw [hl]
    have e1 : r + d - (least3 r g b + d) = r - least3 r g b := by omega
    have e2 : g + d - (least3 r g b + d) = g - least3 r g b := by omega
    have e3 : b + d - (least3 r g b + d) = b - least3 r g b := by omega
    rw [e1, e2, e3]
  unfold ringOk steps3; rw [hf, ha]
theorem ring_nat {r g b : Nat} (hr : r < 8) (hg : g < 8) (hb : b < 8) : ringOk r g b = true := by
  have b1 : mx3 r g b < 8 := by unfold mx3; omega
  have z := hueSides_at (ringTab (rg := mx3 r g b - mn3 r g b) (by omega)) (u := r - mn3 r g b) (v := g - mn3 r g b) (w := b - mn3 r g b)
    (by unfold mx3 mn3; omega) (by unfold mx3 mn3; omega) (by unfold mx3 mn3; omega) (by unfold mn3; omega) (by unfold mx3 mn3; omega)
  have c1 : (r : Int) = ((r - mn3 r g b : Nat) : Int) + ((mn3 r g b : Nat) : Int) := by unfold mn3; omega
  have c2 : (g : Int) = ((g - mn3 r g b : Nat) : Int) + ((mn3 r g b : Nat) : Int) := by unfold mn3; omega
  have c3 : (b : Int) = ((b - mn3 r g b : Nat) : Int) + ((mn3 r g b : Nat) : Int) := by unfold mn3; omega
  have s := ring_shift ((r - mn3 r g b : Nat) : Int) ((g - mn3 r g b : Nat) : Int) ((b - mn3 r g b : Nat) : Int) ((mn3 r g b : Nat) : Int)
  rw [← c1, ← c2, ← c3] at s
  rw [s]; exact z
theorem in8 {r : Int} (h0 : 0 ≤ r) (h1 : r < 8) : r ∈ d8 := by
  have : r = 0 ∨ r = 1 ∨ r = 2 ∨ r = 3 ∨ r = 4 ∨ r = 5 ∨ r = 6 ∨ r = 7 := by omega
  simp [d8]; omega
theorem ringOk_of {r g b : Int} (hr : 0 ≤ r ∧ r < 8) (hg : 0 ≤ g ∧ g < 8) (hb : 0 ≤ b ∧ b < 8) : ringOk r g b = true := by
  obtain ⟨r, rfl⟩ := Int.eq_ofNat_of_zero_le hr.1
  obtain ⟨g, rfl⟩ := Int.eq_ofNat_of_zero_le hg.1
  obtain ⟨b, rfl⟩ := Int.eq_ofNat_of_zero_le hb.1
  exact ring_nat (by omega) (by omega) (by omega)

section
variable {prog : Program} {w : World} {A : Around} {E : Value → Shared → Prop} {s s₀ : Shared} {Q : Value → Shared → Prop} {mg mb : Str → Option Value} {L : Addr} {m : Str → Option Value} {nw : List (Addr × Obj)} {env : Env}

def threeI (a b c : Int) (t u x : Tok) : Array Value := #[.int a t, .int b u, .int c x]
def threeIAt (a b c : Int) (i : Nat) : Int := match i with | 0 => a | 1 => b | _ => c
theorem threeI_at {a b c : Int} {t u x : Tok} {i : Nat} {v : Value} (h : (threeI a b c t u x)[i]? = some v) : ∃ t', v = .int (threeIAt a b c i) t' := by
  match i, h with
  | 0, h => exact ⟨t, by simpa [threeI, threeIAt, eq_comm] using h⟩
  | 1, h => exact ⟨u, by simpa [threeI, threeIAt, eq_comm] using h⟩
  | 2, h => exact ⟨x, by simpa [threeI, threeIAt, eq_comm] using h⟩
  | n + 3, h => simp [threeI] at h

theorem min_spot {T : Addr} {a b c : Int} {t u x : Tok} (hh : A.handled = none) (hT : s.heap.IsTuple T (threeI a b c t u x))
    (h : ∀ s' t', Keeps s s' → Q (.int (least3 a b c) t') s') : wpAny (model prog w) A (call (.builtin "min") [.ref T]) Q E s := by
  refine call_min_walk (wpAny_pyIter_tuple hT ?_)
  have hlt : T < s.heap.objs.size := by obtain ⟨o, ho, _⟩ := hT; exact Heap.lt_size ho
  refine ⟨_, [_, T], [_], _, _, _, (fun i j => decide (threeIAt a b c i < threeIAt a b c j)), rfl, Walks.tuple (A := A.in1) hh _ T (Nat.ne_of_lt hlt) (threeI a b c t u x), ⟨⟨_, Heap.get?_push_size _ rfl, rfl, rfl⟩, hT.push _⟩, fun d hd => ?_, by simp [threeI],
    CmpOf.ints_lt (threeIAt a b c) (fun _ _ => threeI_at), fun v h' tk hP hk => ?_⟩
  · show d < (s.heap.push _).objs.size
    rw [Heap.size_push]
    rcases List.mem_cons.mp hd with rfl | hd
    · exact Nat.lt_succ_self _
    · obtain rfl := List.mem_singleton.mp hd; exact Nat.lt_succ_of_lt hlt
  · obtain ⟨t', rfl⟩ := threeI_at hP
    have e : threeIAt a b c (argBest (fun i j => decide (threeIAt a b c i < threeIAt a b c j)) 2) = least3 a b c := by
      rw [best3]
      show threeIAt a b c (if decide (b < a) = true then (if decide (c < b) = true then 2 else 1) else (if decide (c < a) = true then 2 else 0)) = least3 a b c
      by_cases h1 : b < a <;> by_cases h2 : c < b <;> by_cases h3 : c < a <;> simp only [h1, h2, h3, decide_true, decide_false, if_true, if_false, Bool.false_eq_true, threeIAt] <;> unfold least3 <;> omega
    have e' : threeIAt a b c (argBest (fun i j => decide (threeIAt a b c i < threeIAt a b c j)) ((threeI a b c t u x).size - 1)) = least3 a b c := e
    rw [e']
    refine h _ t' ⟨h', tk, rfl, fun d o e => hk d o (fun hm => ?_) (Heap.get?_push_of_some _ e)⟩
    obtain rfl := List.mem_singleton.mp hm; exact absurd (Heap.lt_size e) (Nat.lt_irrefl _)

theorem max_spot {T : Addr} {a b c : Int} {t u x : Tok} (hh : A.handled = none) (hT : s.heap.IsTuple T (threeI a b c t u x))
    (h : ∀ s' t', Keeps s s' → Q (.int (most3 a b c) t') s') : wpAny (model prog w) A (call (.builtin "max") [.ref T]) Q E s := by
  refine call_max_walk (wpAny_pyIter_tuple hT ?_)
  have hlt : T < s.heap.objs.size := by obtain ⟨o, ho, _⟩ := hT; exact Heap.lt_size ho
  refine ⟨_, [_, T], [_], _, _, _, (fun i j => decide (threeIAt a b c i > threeIAt a b c j)), rfl, Walks.tuple (A := A.in1) hh _ T (Nat.ne_of_lt hlt) (threeI a b c t u x), ⟨⟨_, Heap.get?_push_size _ rfl, rfl, rfl⟩, hT.push _⟩, fun d hd => ?_, by simp [threeI],
    CmpOf.ints_gt (threeIAt a b c) (fun _ _ => threeI_at), fun v h' tk hP hk => ?_⟩
  · show d < (s.heap.push _).objs.size
    rw [Heap.size_push]
    rcases List.mem_cons.mp hd with rfl | hd
    · exact Nat.lt_succ_self _
    · obtain rfl := List.mem_singleton.mp hd; exact Nat.lt_succ_of_lt hlt
  · obtain ⟨t', rfl⟩ := threeI_at hP
    have e : threeIAt a b c (argBest (fun i j => decide (threeIAt a b c i > threeIAt a b c j)) 2) = most3 a b c := by
      rw [best3]
      show threeIAt a b c (if decide (b > a) = true then (if decide (c > b) = true then 2 else 1) else (if decide (c > a) = true then 2 else 0)) = most3 a b c
      by_cases h1 : b > a <;> by_cases h2 : c > b <;> by_cases h3 : c > a <;> simp only [h1, h2, h3, decide_true, decide_false, if_true, if_false, Bool.false_eq_true, threeIAt] <;> unfold most3 <;> omega
    have e' : threeIAt a b c (argBest (fun i j => decide (threeIAt a b c i > threeIAt a b c j)) ((threeI a b c t u x).size - 1)) = most3 a b c := e
    rw [e']
    refine h _ t' ⟨h', tk, rfl, fun d o e => hk d o (fun hm => ?_) (Heap.get?_push_of_some _ e)⟩
    obtain rfl := List.mem_singleton.mp hm; exact absurd (Heap.lt_size e) (Nat.lt_irrefl _)
end
end
end Mine

-- part L6b
namespace Mine
noncomputable section
section
variable {prog : Program} {w : World} {A : Around} {E : Value → Shared → Prop} {s s₀ : Shared} {Q : Value → Shared → Prop} {mg mb : Str → Option Value} {L : Addr} {m : Str → Option Value} {nw : List (Addr × Obj)} {env : Env}

theorem Sf.but {d : Addr} {h' : Heap} (F : Sf s₀ L m nw s) (hs : Heap.SameBut d s.heap h') (hd : d ≠ L) (h0 : s₀.heap.get? d = none) (hn : ∀ p ∈ nw, p.1 ≠ d) : Sf s₀ L m nw { s with heap := h' } := by
  obtain ⟨a, b, rfl⟩ := F.sm
  exact ⟨⟨h', _, rfl⟩, ⟨F.fr.ns.sameBut hs (Ne.symm hd), fun b o e => hs.extBut b o (fun q => by rw [q, h0] at e; cases e) (F.fr.keep b o e), F.fr.above⟩, fun p hp => ⟨hs.extBut _ _ (hn p hp) (F.nw p hp).1, (F.nw p hp).2⟩⟩

theorem Sf.setAt {d : Addr} {o o' : Obj} {rest : List (Addr × Obj)} {h' : Heap} (F : Sf s₀ L m ((d, o) :: rest) s) (hn : ∀ p ∈ rest, p.1 ≠ d) (hs : Heap.SameBut d s.heap h') (ho' : h'.get? d = some o') : Sf s₀ L m ((d, o') :: rest) { s with heap := h' } := by
  have nHm := F.nw (d, o) List.mem_cons_self
  obtain ⟨x, y, rfl⟩ := F.sm
  exact ⟨⟨h', _, rfl⟩, ⟨F.fr.ns.sameBut hs (Ne.symm nHm.2.1), fun b o e => hs.extBut b o (fun q => by rw [q, nHm.2.2] at e; cases e) (F.fr.keep b o e), F.fr.above⟩, News.setAt (own := []) F.nw (by simp) hn hs ho'⟩

theorem intS' {M : Model} {x k pos} (F : Sf s₀ L m nw s) (h : ∀ t tk, Sf s₀ L m nw { s with toks := tk } → Q (.int x t) { s with toks := tk }) : wpAny M A (eval (.Constant (.int x) k pos) env) Q E s :=
  wpAny_Constant_int (h _ _ (F.tok _))

theorem listE {elts : List Expr} {pos : Pos} (h : wpAny (model prog w) A (spliced (backTo pos (starEach elts env))) (fun vs s₁ => vs.length ≤ 1000 ∧ ∀ D s', Keeps s₁ s' → s₁.heap.get? D = none → s'.heap.get? D = some (lob vs.toArray 0) → Q (.ref D) s') E s) :
    wpAny (model prog w) A (eval (.List elts pos) env) Q E s :=
  wpAny_List_spliced (wpAny_mono h (fun vs s₁ h₁ => ⟨by have := sizeLine_eq; omega, h₁.2 _ _ (kpush _ _) (fresh_size _) (Heap.get?_push_size _ rfl)⟩) fun _ _ x => x)
theorem isubS {a b : Int} {t u : Tok} (F : Sf s₀ L m nw s) (h : ∀ s' t, Sf s₀ L m nw s' → Keeps s s' → Q (.int (a - b) t) s') : wpAny (model prog w) A (binaryOp .Sub (.int a t) (.int b u)) Q E s := sub_int (h _ _ (F.tok _) (ktok _ _))
theorem iaddS {a b : Int} {t u : Tok} (F : Sf s₀ L m nw s) (h : ∀ s' t, Sf s₀ L m nw s' → Keeps s s' → Q (.int (a + b) t) s') : wpAny (model prog w) A (binaryOp .Add (.int a t) (.int b u)) Q E s := add_int (h _ _ (F.tok _) (ktok _ _))
theorem imodS {a b : Int} {t u : Tok} (F : Sf s₀ L m nw s) (hb : 0 < b) (h : ∀ s' t, Sf s₀ L m nw s' → Keeps s s' → Q (.int (a % b) t) s') : wpAny (model prog w) A (binaryOp .Mod (.int a t) (.int b u)) Q E s := fmodS hb (h _ _ (F.tok _) (ktok _ _))
theorem imulS {a b : Int} {t u : Tok} (F : Sf s₀ L m nw s) (hm : IntMulOk a b) (h : ∀ s' t, Sf s₀ L m nw s' → Keeps s s' → Q (.int (a * b) t) s') : wpAny (model prog w) A (binaryOp .Mult (.int a t) (.int b u)) Q E s := mul_int (h _ _ (F.tok _) (ktok _ _)) hm
theorem ifdivS {a b : Int} {t u : Tok} (F : Sf s₀ L m nw s) (hb : 0 < b) (h1 : 0 ≤ a) (h2 : a < 100000) (h3 : b < 100000) (h : ∀ s' t, Sf s₀ L m nw s' → Keeps s s' → Q (.int (a / b) t) s') : wpAny (model prog w) A (binaryOp .FloorDiv (.int a t) (.int b u)) Q E s := fdivS (M := model prog w) hb h1 h2 h3 (h _ _ (F.tok _) (ktok _ _))
theorem intK {M : Model} {x k pos} (F : Sf s₀ L m nw s) (h : ∀ s' t, Sf s₀ L m nw s' → Keeps s s' → Q (.int x t) s') : wpAny M A (eval (.Constant (.int x) k pos) env) Q E s := wpAny_Constant_int (h _ _ (F.tok _) (ktok _ _))

theorem three_set (l : List Int) (hl : l.length = 3) (its : Array Value) (hi : Ints l its) (i : Nat) (hi3 : i < 3) (x : Int) (t : Tok) : Ints (l.set i x) (its.setIfInBounds i (.int x t)) := by
  unfold Ints
  rw [Array.toList_setIfInBounds]
  have : ∀ {l : List Int} {k : List Value}, Paired IntP l k → ∀ i, Paired IntP (l.set i x) (k.set i (.int x t)) := by
    intro l k h
    induction h with
    | nil => intro i; exact .nil
    | cons g t' ih =>
      intro i
      cases i with
      | zero => exact .cons ⟨t, rfl⟩ t'
      | succ i => exact .cons g (ih i)
  exact this hi i
theorem ring_len (full : Int) (k : Nat) : (ring full k).length = 3 := by
  induction k with
  | zero => rfl
  | succ k ih => simp [ring, ringStep, ih]

set_option maxHeartbeats 8000000 in
theorem place_call {a T : Addr} {r g b : Int} {t1 t2 t3 : Tok} (G : Gd mg mb s.heap) (hf : IsFn s.heap 6 a) (hh : A.handled = none) (hroom : A.depth < recursionLimit) (hu : A.units + 100 < cLine)
    (hT : s.heap.IsTuple T (threeI r g b t1 t2 t3)) (hr : 0 ≤ r ∧ r < 8) (hg : 0 ≤ g ∧ g < 8) (hb : 0 ≤ b ∧ b < 8)
    (h : ∀ s' t', Keeps s s' → Q (.int (place r g b) t') s') :
    wpAny (model prog w) A (call (.ref a) [.ref T]) Q E s := by
  refine fnCallC G hf hroom (fun _ _ _ => by rfl) ?_ (by decide) (fun cd s₁ cells F C => ?_) (by rfl) (by rfl) (by rfl)
  · intro x hx
    have hx' : x = (("spot" : Str), Value.ref T) := by
      have : x ∈ [(("spot" : Str), Value.ref T)] := hx
      simpa using this
    subst hx'
    exact .inl (by rfl)
  obtain ⟨o, rfl, hod⟩ := CellsAre.one (n := ("least" : Str)) (c := s.heap.objs.size + 1) (cells := cells) C
  have hod' : o.data = .cell none := hod
  have hh' : (A.deeper (envOfC (nam (pst 6)) (scp (pst 6)) s.heap.objs.size a cd)).handled = none := hh
  have hu' : (A.deeper (envOfC (nam (pst 6)) (scp (pst 6)) s.heap.objs.size a cd)).units + 64 < cLine := by show A.units + 3 + 64 < cLine; omega
  have hTk : ∀ {s' : Shared}, Up s.heap s'.heap → s'.heap.IsTuple T (threeI r g b t1 t2 t3) := fun u => let ⟨o, ho, r⟩ := hT; ⟨o, u _ _ ho, r⟩
  show wpAny _ _ (execs (bdy (pst 6)) _) _ _ _
  refine wpAny_execs_cons (wpAny_Assign_Name (callE1 (bootS F G boot_min ⟨.bi, ldS F (by rfl) ⟨Up.refl _, min_spot hh' (hTk F.up) fun s₂ t' k => ?_⟩⟩)))
  refine stCellS (own := []) (rest := []) (F.kp k) (by rfl) hod' (by simp) (by simp) fun s₃ o' F hod' => ?_
  refine wpAny_execs_cons (wpAny_Assign_Name (wpAny_BinOp (callE1 (bootS F G boot_max ⟨.bi, ldS F (by rfl) ⟨Up.refl _, max_spot hh' (hTk F.up) fun s₄ t'' k => ?_⟩⟩))))
  have F := F.kp k
  refine ldCellS F (by rfl) (by simp) hod' (isubS F fun s₄' tfu F _ => stS F fun s₅ F => ?_)
  refine wpAny_execs_cons (compAssign (s₀ := s) (cl := [(("least" : Str), s.heap.objs.size + 1)]) (ldS F (by rfl) ?_))
  have hcell : s₅.heap.IsCell (s.heap.objs.size + 1) (some (.int (least3 r g b) t')) := ⟨o', F.get (by simp), hod'⟩
  refine ⟨s₅, (threeI r g b t1 t2 t3).size, _, fun _ => true, fun i v => IntP (threeIAt r g b i - least3 r g b) v, _, _, F, itersTuple hh' (hTk F.up), by simp [threeI], ⟨?_, ?_⟩, ?_⟩
  · rintro C i s₆ m₃ E' hlt ⟨v, hv, hm⟩ hn hK hC
    exact tests0 ⟨rfl, krefl _⟩
  · rintro C i s₆ m₃ E' hlt hp ⟨v, hv, hm⟩ hn hK hC
    obtain ⟨t, rfl⟩ := threeI_at hv
    have hcell₃ := hcell.keeps (kup hK)
    refine wpAny_BinOp (ldLoc hn hm (ldCellC (by exact hcell₃) (by rfl) (sub_int ?_)))
    exact ⟨.inl ⟨_, rfl⟩, ⟨_, _, rfl, fun _ _ e => e⟩⟩
  intro Da s₆ ys ka F hDa hP
  have hAim : Ints (aim3 r g b) ys := by
    have e : (List.range (threeI r g b t1 t2 t3).size).filter (fun _ => true) = [0, 1, 2] := rfl
    rw [e] at hP
    obtain ⟨l, el⟩ : ∃ l, ys.toList = l := ⟨_, rfl⟩
    unfold Ints
    rw [el] at hP ⊢
    cases hP with | cons q0 hP => cases hP with | cons q1 hP => cases hP with | cons q2 hP => cases hP; exact .cons q0 (.cons q1 (.cons q2 .nil))
  refine wpAny_execs_cons (wpAny_Assign_Name (listE (args_cons (ldS F (by rfl) (args_cons (intK F fun s₆' ta F _ => args_cons (intK F fun s₇ tb F _ => args_nil ⟨by simp, fun Dh s₇' k hDh hDl => stS (F.add k hDh hDl) fun s₈ F8 => ?_⟩)))))))
  have hfull : most3 r g b - least3 r g b = full3 r g b := rfl
  rw [hfull] at F8
  have nDh : ∀ p ∈ [(Da, lob ys ka), (s.heap.objs.size + 1, o')], p.1 ≠ Dh := fun p hp q => by
    have z := (F.nw p (by simpa using hp)).1
    rw [q, hDh] at z; cases z
  refine wpAny_execs_cons (wpAny_Assign_Name (intS F8 fun s₉ t9 F9 => stS F9 fun s₁₀ F10 => ?_))
  have hok := ringOk_of hr hg hb
  unfold ringOk at hok
  simp only [Bool.and_eq_true, beq_iff_eq, decide_eq_true_eq, List.all_eq_true, List.mem_range, bne_iff_ne] at hok
  obtain ⟨⟨hend, hst45⟩, hmid⟩ := hok
  refine wpAny_execs_cons (wpAny_While (codeAny_whileLoop (fun n s' => ∃ (i : Nat) (m' : Str → Option Value) (its : Array Value) (ts tf : Tok) (oH : Obj) (nH : Nat), n = steps3 r g b - i ∧ i ≤ steps3 r g b ∧
      Sf s s.heap.objs.size m' [(Dh, oH), (Da, lob ys ka), (s.heap.objs.size + 1, o')] s' ∧ oH.cls = .type "list" ∧ oH.data = .seq its nH ∧ Ints (ring (full3 r g b) i) its ∧ m' "here" = some (.ref Dh) ∧ m' "aim" = some (.ref Da) ∧ m' "steps" = some (.int (i : Int) ts) ∧ m' "full" = some (.int (full3 r g b) tf)) ?_ _
    ⟨0, _, _, _, _, _, 0, rfl, Nat.zero_le _, F10, rfl, rfl, .cons ⟨_, rfl⟩ (.cons ⟨_, rfl⟩ (.cons ⟨_, rfl⟩ .nil)), by rfl, by rfl, by rfl, by rfl⟩))
  rintro n s' ⟨i, m', its, ts, tf, oH, nH, rfl, hi, F, hHc, hHd, hI, mh, ma, ms, mf⟩
  have hH : s'.heap.IsList Dh its := ⟨oH, F.get (by simp), hHc, nH, hHd⟩
  refine wpAny_isTrue_Compare1 (ldS F mh (ldS F ma ?_))
  have hA : s'.heap.IsList Da ys := ⟨_, F.get (a := Da) (o := lob ys ka) (by simp), rfl, ka, rfl⟩
  refine ne_intsK (vs := its.toList) (us := ys.toList) (by simpa using hH) (ints_are hI) (by simpa using hA) (ints_are hAim) hu' (wpAny_truthy_bool ?_)
  by_cases hdone : i = steps3 r g b
  · rw [if_neg (by rw [hdone, hend]; simp)]
    refine wpAny_execs_nil ?_
    have hf8 : full3 r g b < 8 := by unfold full3 most3 least3; omega
    have hf0 : 0 ≤ full3 r g b := by unfold full3 most3 least3; omega
    refine wpAny_execs_cons (wpAny_Return_some (wpAny_BinOp (wpAny_BinOp (ldS F ms (intK F fun s₂ t F k => imulS F (.of_right (by decide +kernel)) fun s₃ tm F k => ?_)))))
    refine callE2 (bootS F G boot_max ⟨.bi, ldS F mf (intK F fun s₄ t F k => ⟨kup k, max_two_ints hh' fun h' tk hk => ?_⟩)⟩)
    have F5 := F.kp (kmk (t := tk) hk)
    have fin : ∀ tq : Tok, wpAny (model prog w) (A.deeper (envOfC (nam (pst 6)) (scp (pst 6)) s.heap.objs.size a cd)) (binaryOp .FloorDiv (.int ((i : Int) * 420) tm) (.int (max (full3 r g b) 1) tq)) (fun v s' => Q v s') (fun _ _ => False) { s₄ with heap := h', toks := tk } := fun tq => by
      refine ifdivS F5 (by omega) (by omega) (by omega) (by omega) fun s₅ t5 F k => ?_
      have e : (i : Int) * 420 / max (full3 r g b) 1 = place r g b := by rw [hdone]; rfl
      rw [e]; exact h _ _ F.keeps
    by_cases h1 : (1 : Int) > full3 r g b
    · rw [if_pos h1]
      have e : max (full3 r g b) 1 = 1 := by omega
      have := fin t
      rw [e] at this; exact this
    · rw [if_neg h1]
      have e : max (full3 r g b) 1 = full3 r g b := by omega
      have := fin tf
      rw [e] at this; exact this
  · have hlt : i < steps3 r g b := by omega
    obtain ⟨⟨⟨hne, hpos⟩, hsix⟩, hlen⟩ := hmid i hlt
    rw [if_pos (by simp [hne])]
    have hf8 : full3 r g b < 8 := by unfold full3 most3 least3; omega
    refine wpAny_execs_cons (wpAny_Assign_Name (wpAny_BinOp (ldS F ms (ldS F mf (ifdivS F hpos (by omega) (by omega) (by omega) fun s₂ tt F2 k2 => stS F2 fun s₃ F3 => ?_)))))
    have hk0 : 0 ≤ (i : Int) / full3 r g b := Int.ediv_nonneg (by omega) (by omega)
    refine wpAny_execs_cons (wpAny_AugAssign_Subscript_any (ldS F3 ((if_neg (by decide)).trans mh) (Subscript_ (listE (args_cons (intK F3 fun s₄ a1 F k1 => args_cons (intK F fun s₄ a2 F k2 => args_cons (intK F fun s₄ a3 F k3 => args_cons (intK F fun s₄ a4 F k4 => args_cons (intK F fun s₄ a5 F k5 => args_cons (intK F fun s₄ a6 F k6 => args_nil ⟨by simp, fun Dt s₅ k7 hDt hDl => ldS (F.kp k7) (if_pos rfl) ?_⟩)))))))))))
    have F5 := F.kp k7
    have kk : Keeps s₃ s₅ := ktrans k1 (ktrans k2 (ktrans k3 (ktrans k4 (ktrans k5 (ktrans k6 k7)))))
    refine item_list_intsR (ns := [1, 0, 2, 1, 0, 2]) (vs := [.int 1 a1, .int 0 a2, .int 2 a3, .int 1 a4, .int 0 a5, .int 2 a6]) ⟨_, hDl, rfl, 0, rfl⟩ (.cons _ _ (.cons _ _ (.cons _ _ (.cons _ _ (.cons _ _ (.cons _ _ .nil)))))) hk0 (by simpa using hsix) (by omega) fun tx => ?_
    have six6 : ∀ k, k < 6 → ([1, 0, 2, 1, 0, 2] : List Int).getD k 0 = ((([1, 0, 2, 1, 0, 2] : List Nat).getD k 0 : Nat) : Int) ∧ ([1, 0, 2, 1, 0, 2] : List Nat).getD k 0 < 3 := by decide
    obtain ⟨e6, l6⟩ := six6 ((i : Int) / full3 r g b).toNat (by omega)
    rw [e6]
    generalize hj : ([1, 0, 2, 1, 0, 2] : List Nat).getD ((i : Int) / full3 r g b).toNat 0 = jj at l6
    have hsz := hI.size
    rw [ring_len] at hsz
    have hH5 : s₅.heap.IsList Dh its := ⟨oH, F5.get (by simp), hHc, nH, hHd⟩
    have hjl : jj < (ring (full3 r g b) i).length := by rw [ring_len]; exact l6
    obtain ⟨v, hv, told, rfl⟩ := Paired.at hI (List.getElem?_eq_getElem hjl)
    refine wpAny_getItem_list hH5 (by omega) (by omega) (by simpa using hv) ?_
    refine wpAny_BinOp (intK F5 fun s₆ b1 F k => wpAny_BinOp (wpAny_BinOp (ldS F (if_pos rfl) (intK F fun s₆ b2 F k => imodS F (by decide) fun s₆ b3 F k => intK F fun s₆ b4 F k => imulS F (.of_right (by decide +kernel)) fun s₆ b5 F k => isubS F fun s₆ b6 F k => iadd_int ?_))))
    have F6 := F.tok (s₆.toks + 1)
    have hH6 : s₆.heap.IsList Dh its := ⟨oH, F.get (by simp), hHc, nH, hHd⟩
    refine wpAny_setItem_list (s := { s₆ with toks := s₆.toks + 1 }) hH6 (by omega) (by omega) (by omega) fun h₇ hl₇ hs₇ => ?_
    obtain ⟨oH', ho', hc', nH', hd'⟩ := hl₇
    have F7 := F6.setAt nDh hs₇ ho'
    refine wpAny_execs_cons (wpAny_Assign_Name (wpAny_BinOp (ldS F7 ((if_neg (by decide)).trans ms) (intK F7 fun s₈ c1 F k => iaddS F fun s₈ c2 F k => stS F fun s₉ F => wpAny_execs_nil ?_))))
    refine ⟨steps3 r g b - (i + 1), by omega, i + 1, _, _, c2, tf, oH', nH', rfl, by omega, F, hc', hd', ?_, (if_neg (by decide)).trans ((if_neg (by decide)).trans mh), (if_neg (by decide)).trans ((if_neg (by decide)).trans ma), (if_pos rfl).trans (by simp), (if_neg (by decide)).trans ((if_neg (by decide)).trans mf)⟩
    have e : ring (full3 r g b) (i + 1) = (ring (full3 r g b) i).set jj ((ring (full3 r g b) i)[jj] + (1 - (i : Int) / full3 r g b % 2 * 2)) := by
      show ringStep _ _ _ = _
      unfold ringStep
      simp only []
      rw [hj, List.getD_eq_getElem?_getD, List.getElem?_eq_getElem hjl]; rfl
    rw [e]
    exact three_set _ (ring_len _ _) _ hI jj l6 _ _
end
end
end Mine

-- part L8
namespace Mine
noncomputable section
section
variable {prog : Program} {w : World} {A : Around} {E : Value → Shared → Prop} {s s₀ : Shared} {Q : Value → Shared → Prop} {mg mb : Str → Option Value} {L : Addr} {m : Str → Option Value} {nw : List (Addr × Obj)} {env : Env}

set_option maxHeartbeats 4000000 in
theorem turned_call {a T : Addr} {r g b : Int} {t1 t2 t3 : Tok} (G : Gd mg mb s.heap) (hf : IsFn s.heap 8 a) (hh : A.handled = none) (hroom : A.depth + 1 < recursionLimit) (hu : A.units + 110 < cLine)
    (hT : s.heap.IsTuple T (threeI r g b t1 t2 t3)) (hr : 0 ≤ r ∧ r < 8) (hg : 0 ≤ g ∧ g < 8) (hb : 0 ≤ b ∧ b < 8)
    (h : ∀ s' t', Keeps s s' → Q (.int (turned r g b) t') s') :
    wpAny (model prog w) A (call (.ref a) [.ref T]) Q E s := by
  refine fnCall G hf (by omega) (fun _ _ _ => by rfl) (locs (by rfl)) (fun cd s₁ F => ?_) (by rfl) (by rfl) (by rfl) (by decide)
  have hh' : (A.deeper (envOf (nam (pst 8)) (scp (pst 8)) s.heap.objs.size a cd)).handled = none := hh
  have hu' : (A.deeper (envOf (nam (pst 8)) (scp (pst 8)) s.heap.objs.size a cd)).units + 100 < cLine := by show A.units + 3 + 100 < cLine; omega
  have hr' : (A.deeper (envOf (nam (pst 8)) (scp (pst 8)) s.heap.objs.size a cd)).depth < recursionLimit := hroom
  have hTk : ∀ {s' : Shared}, Up s.heap s'.heap → s'.heap.IsTuple T (threeI r g b t1 t2 t3) := fun u => let ⟨o, ho, r⟩ := hT; ⟨o, u _ _ ho, r⟩
  show wpAny _ _ (execs (bdy (pst 8)) _) _ _ _
  refine wpAny_execs_cons (wpAny_Return_some (wpAny_IfExp (wpAny_isTrue_Compare1 ?_)))
  refine callE1 (bootS F G boot_min ⟨.bi, ldS F (by rfl) ⟨Up.refl _, min_spot hh' (hTk F.up) fun s₂ ta k => ?_⟩⟩)
  have F := F.kp k
  refine callE1 (bootS F G boot_max ⟨.bi, ldS F (by rfl) ⟨Up.refl _, max_spot hh' (hTk F.up) fun s₃ tb k => ?_⟩⟩)
  have F := F.kp k
  refine lt_int (wpAny_truthy_bool ?_)
  by_cases hlt : least3 r g b < most3 r g b
  · rw [if_pos (by simpa using hlt)]
    obtain ⟨pa, hpa, hpf⟩ := (F.gd G).is rec3
    refine wpAny_BinOp (wpAny_BinOp (callE1 (globS (i := 6) F G hpa ⟨.fn hpf, ldS F (by rfl) ⟨Up.refl _, place_call (F.gd G) hpf hh' hr' hu' (hTk F.up) hr hg hb fun s₄ t4 k => ?_⟩⟩)))
    have F := F.kp k
    refine intK F fun s₅ t5 F _ => iaddS F fun s₅ t6 F _ => intK F fun s₅ t7 F _ => imodS F (by decide) fun s₅ t8 F _ => ?_
    have e : (place r g b + 1260) % 2520 = turned r g b := by unfold turned; rw [if_pos hlt]
    rw [e]; exact h _ _ F.keeps
  · rw [if_neg (by simpa using hlt)]
    refine intK F fun s₅ t5 F _ => ?_
    have e : (0 : Int) = turned r g b := by unfold turned; rw [if_neg hlt]
    rw [e]; exact h _ _ F.keeps
end
end
end Mine

-- part L10
namespace Mine
noncomputable section

def readF (x : UInt64) : UInt64 := Float64.mul (Float64.mul x (Float64.ofInt 2520)) (Float64.ofInt 1024)
def isNear (x : UInt64) (n : Int) : Bool := match Float64.decode x with | .fin s m e => Float64.nearestOf s m e == n | _ => false
theorem read_all : (hueTab.all fun p => isNear (readF p.2) (1024 * p.1)) = true := by decide +kernel
theorem read_near {p : Int} (h : isPlace p = true) : ∃ s m e, Float64.decode (readF (F p)) = .fin s m e ∧ Float64.nearestOf s m e = 1024 * p := by
  obtain ⟨u, h1, rfl⟩ := place_tab h
  have := List.all_eq_true.mp read_all _ h1
  unfold isNear at this
  split at this
  · rename_i s m e hd
    exact ⟨s, m, e, hd, by simpa using this⟩
  · cases this

theorem paired_map {α β γ : Type} {G : β → γ → Prop} {f : α → β} : ∀ {l : List α} {k : List γ}, Paired (fun a v => G (f a) v) l k → Paired G (l.map f) k
  | _, _, .nil => .nil
  | _, _, .cons g t => .cons g (paired_map t)

section
variable {prog : Program} {w : World} {A : Around} {E : Value → Shared → Prop} {s s₀ : Shared} {Q : Value → Shared → Prop} {mg mb : Str → Option Value} {L : Addr} {m : Str → Option Value} {nw : List (Addr × Obj)} {env : Env}

theorem round_near {x : UInt64} {t : Tok} {sg : Bool} {mm : Nat} {e : Int} (hd : Float64.decode x = .fin sg mm e) (h : Q (.int (Float64.nearestOf sg mm e) s.toks) { s with toks := s.toks + 1 }) : wpAny (model prog w) A (call (.builtin "round") [.float x t]) Q E s :=
  PySem.Flt.round_via1 (call_gives PySem.F.slot_float_round (AutoFloatOps.typeIs_float s x t) PySem.F.entry_float_round (PySem.F.args_float_round_1 _) (PySem.Flt.gives_round t hd) h)

set_option maxHeartbeats 4000000 in
theorem read_call {a la : Addr} {its : Array Value} {ps : List Int} (G : Gd mg mb s.heap) (hf : IsFn s.heap 10 a) (hh : A.handled = none) (hroom : A.depth < recursionLimit)
    (hl : s.heap.IsList la its) (hi : Flts ps its) (hp : ∀ p ∈ ps, isPlace p = true) (hz : ps.length ≤ 100)
    (h : ∀ s' D ys k, Keeps s s' → s.heap.get? D = none → s'.heap.get? D = some (lob ys k) → Ints (ps.map (1024 * ·)) ys → Q (.ref D) s') :
    wpAny (model prog w) A (call (.ref a) [.ref la]) Q E s := by
  refine fnCall G hf hroom (fun _ _ _ => by rfl) (locs (by rfl)) (fun cd s₁ F => ?_) (by rfl) (by rfl) (by rfl) (by decide)
  show wpAny _ _ (execs (bdy (pst 10)) _) _ _ _
  refine wpAny_execs_cons (wpAny_Return_some (compEval (cl := []) (ldS F (by rfl) ?_)))
  have hl₁ : s₁.heap.IsList la its := by obtain ⟨o, ho, r⟩ := hl; exact ⟨o, F.up _ _ ho, r⟩
  have hsz := hi.size
  refine ⟨s₁, its.size, _, fun _ => true, fun i v => ∃ p, ps[i]? = some p ∧ IntP (1024 * p) v, fun _ _ => False, itersList hh hl₁, by omega, ⟨?_, ?_⟩, ?_⟩
  · rintro C i s₃ m₃ E' hlt ⟨v, hv, hm⟩ hn hK hC
    exact tests0 ⟨rfl, krefl _⟩
  · rintro C i s₃ m₃ E' hlt _ ⟨v, hv, hm⟩ hn hK hC
    have hlt' : i < ps.length := by omega
    have hpi : ps[i]? = some ps[i] := List.getElem?_eq_getElem hlt'
    obtain ⟨t, hv'⟩ := hi.at hpi
    rw [hv] at hv'; cases hv'
    have hpp := hp _ (List.getElem_mem hlt')
    obtain ⟨sg, mm, e, hd, hnear⟩ := read_near hpp
    have G₃ := G.up (fun b o e => kup hK b o (F.up b o e))
    refine callE1 (ldBoot G₃ boot_round ⟨.bi, ?_⟩)
    refine wpAny_BinOp (wpAny_BinOp (ldLoc hn hm (wpAny_Constant_int (AutoFloatOps.mul_fi_1 (by decide +kernel) (wpAny_Constant_int (AutoFloatOps.mul_fi_1 (by decide +kernel) ?_))))))
    refine ⟨Up.refl _, round_near hd ?_⟩
    rw [hnear]
    exact ⟨.inl ⟨_, hpi, _, rfl⟩, ⟨_, _, rfl, fun _ _ e => e⟩⟩
  · intro D s' ys k hK hD hl' hP
    refine h s' D ys k (ktrans F.keeps hK) (F.fresh hD) hl' ?_
    have := paired_filter (F' := fun p v => IntP (1024 * p) v) (p := fun _ => true) (q := fun _ => true) (xs := ps) (fun i n hn => rfl) (by
      rw [← hsz]
      exact hP.mono fun i y z => by
        rcases z with z | ⟨_, _, _, _, _, z⟩
        · exact z
        · exact z.elim)
    rw [List.filter_eq_self.mpr (by simp)] at this
    exact paired_map this
end
end
end Mine

-- part S1
namespace Mine
noncomputable section
def keyF (x : UInt64) : Option Int := (hueTab.find? fun q => q.2 == x).map (·.1)
theorem key_all : (hueTab.all fun p => keyF p.2 == some p.1) = true := by decide +kernel
theorem keyF_F {p : Int} (h : isPlace p = true) : keyF (F p) = some p := by
  obtain ⟨u, h1, rfl⟩ := place_tab h
  have := List.all_eq_true.mp key_all _ h1
  simpa using this
theorem keyF_tab {x : UInt64} {a : Int} (h : keyF x = some a) : (a, x) ∈ hueTab := by
  unfold keyF at h
  cases e : hueTab.find? (fun q => q.2 == x) with
  | none => rw [e] at h; cases h
  | some q =>
    rw [e] at h
    obtain ⟨b, y⟩ := q
    have h1 := List.find?_some e
    have h2 := List.mem_of_find?_eq_some e
    simp at h h1
    subst h h1; exact h2
def placeKind : KeyKind where
  α := Int
  blt a b := decide (a < b)
  irrefl := fun a => by simp
  trans := fun a b c h1 h2 => by simp at h1 h2 ⊢; omega
  negTrans := fun a b c h => by simp at h ⊢; omega
  total := fun a b h1 h2 => by simp at h1 h2; omega
  keyOf := fun v => match v with | .float x _ => keyF x | _ => none
  dflt := 0
theorem keyF_cmp {x y : UInt64} {a b : Int} (hx : keyF x = some a) (hy : keyF y = some b) : flt x y = decide (a < b) := by
  have h1 := List.all_eq_true.mp cmp_all _ (keyF_tab hx)
  have h2 := List.all_eq_true.mp h1 _ (keyF_tab hy)
  have h3 : Float64.cmp x y = some (compare a b) := by simpa using h2
  unfold flt; rw [h3]
  rcases Int.lt_trichotomy a b with h | h | h
  · rw [Int.compare_eq_lt.mpr h]; simp [h]
  · subst h; simp
  · rw [Int.compare_eq_gt.mpr h]; simp; omega

section
variable {prog : Program} {w : World} {A : Around} {E : Value → Shared → Prop} {s s₀ : Shared} {Q : Value → Shared → Prop} {L : Addr} {m : Str → Option Value} {nw : List (Addr × Obj)}
theorem oneLt_float {a b : UInt64} {t u : Tok} {Q : Bool → Shared → Prop} (h : Q (flt a b) s) : wpAny (model prog w) A (oneLt' true (.float a t) (.float b u)) Q E s := by
  rw [oneLt'_eq]
  simp only [if_true]
  refine wpAny_bind (wpAny_cRoomFor_byValue rfl ?_)
  refine wpAny_bind (wpAny_callSpecialIfBound?_slot (typeIs_float s a t) PySem.F.slot_float_lt (call_gives PySem.F.slot_float_lt (typeIs_float s a t) PySem.F.entry_float_lt (PySem.F.args_float_lt_2 _ _) (AutoFloatG5.float___lt___float_float_0 a t b u) ?_))
  exact wpAny_truthy_bool h
theorem placeKind_oneLt : placeKind.OneLt := by
  intro prog w A E s x y a b Q hx hy h
  cases x <;> simp only [placeKind, reduceCtorEq] at hx
  cases y <;> simp only [placeKind, reduceCtorEq] at hy
  refine oneLt_float ?_
  rw [keyF_cmp hx hy]; exact h

def FlK (p : Int) (v : Value) : Prop := ∃ t, v = .float (F p) t
theorem flts_all {ps : List Int} {l : List Value} (h : Paired FlP ps l) : ∀ v ∈ l, ∃ p t, p ∈ ps ∧ v = .float (F p) t := by
  induction h with
  | nil => intro v hv; cases hv
  | cons g t ih =>
    intro v hv
    obtain ⟨tk, rfl⟩ := g
    rcases List.mem_cons.mp hv with rfl | hv
    · exact ⟨_, tk, List.mem_cons_self, rfl⟩
    · obtain ⟨p, t, h1, h2⟩ := ih v hv; exact ⟨p, t, List.mem_cons_of_mem _ h1, h2⟩
def plOf : Value → Int
  | .float x _ => (keyF x).getD 0
  | _ => 0
theorem plOf_F {p : Int} {t : Tok} (h : isPlace p = true) : plOf (.float (F p) t) = p := by show (keyF (F p)).getD 0 = p; rw [keyF_F h]; rfl
theorem mapM_first_fl : ∀ {vs : List Value}, (∀ v ∈ vs, ∃ x t, v = .float x t) → vs.mapM firstOfTuple' = pure (vs.map fun _ => none)
  | [], _ => by simp
  | v :: vs, h => by
    obtain ⟨x, t, rfl⟩ := h v List.mem_cons_self
    rw [List.mapM_cons, mapM_first_fl fun u hu => h u (List.mem_cons_of_mem _ hu)]
    show (pure none >>= fun b => pure _ >>= fun bs => pure (b :: bs)) = _
    simp
theorem mapM_typeOf_fl : ∀ {vs : List Value}, (∀ v ∈ vs, ∃ x t, v = .float x t) → vs.mapM typeOf = pure (vs.map fun _ => Value.type "float")
  | [], _ => by simp
  | v :: vs, h => by
    obtain ⟨x, t, rfl⟩ := h v List.mem_cons_self
    rw [List.mapM_cons, mapM_typeOf_fl fun u hu => h u (List.mem_cons_of_mem _ hu)]
    show (pure (Value.type "float") >>= fun b => pure _ >>= fun bs => pure (b :: bs)) = _
    simp
theorem keyKind_fl {v₁ v₂ : Value} {vs : List Value} (hI : ∀ v ∈ v₁ :: v₂ :: vs, ∃ x t, v = .float x t) : keyKind' (v₁ :: v₂ :: vs).toArray = pure oneType' := by
  rw [keyKind'_eq, List.mapM_toArray, mapM_first_fl hI]
  simp only [map_pure, pure_bind]
  rw [if_neg (by simp), if_neg (by simp)]
  rw [oneTypeOnly'_eq, List.mapM_toArray, mapM_typeOf_fl hI]
  simp only [map_pure, pure_bind]
  have hall : ((List.map (fun _ => Value.type "float") (v₁ :: v₂ :: vs)).toArray.all fun x => x == Value.type "float") = true := by
    simp only [List.all_toArray, List.all_map, List.all_eq_true]
    intro _ _
    rfl
  have h0 : (List.map (fun _ => Value.type "float") (v₁ :: v₂ :: vs)).toArray[0]? = some (Value.type "float") := by simp
  rw [h0]
  simp only [hall, if_true, pure_bind, Option.isSome_some]
theorem KK_fl {xs : Array Keyed} {i : Nat} (hi : i < xs.size) {p : Int} {t : Tok} {q : Value} (hp : isPlace p = true) (hx : xs[i] = (.float (F p) t, q)) : KK placeKind xs i = p := by
  unfold KK; rw [getElem?_pos xs i hi, hx]
  show (keyF (F p)).getD 0 = p
  rw [keyF_F hp]; rfl

theorem sorted_out_fl {vs : List Value} {ps : List Int} (hS : Paired FlP ps vs) (hpl : ∀ p ∈ ps, isPlace p = true) {xs : Array Keyed} (hp : xs.Perm (pairsOf vs)) (hs : SortedToK placeKind xs (pairsOf vs).size) :
    ∃ ps', Flts ps' (xs.map (·.2)) ∧ ps'.Perm ps ∧ ps'.Pairwise (· ≤ ·) := by
  have hl : xs.toList.Perm (vs.zip vs) := by rw [← pairsOf_toList]; exact Array.perm_iff_toList_perm.mp hp
  have hmem : ∀ p, p ∈ xs.toList → p.1 = p.2 ∧ p.1 ∈ vs := fun p hp' => mem_zip_self (hl.mem_iff.mp hp')
  have hall := flts_all hS
  refine ⟨xs.toList.map (fun p => plOf p.1), ?_, ?_, ?_⟩
  · have e : (xs.map (·.2)).toList = xs.toList.map (·.1) := by
      rw [Array.toList_map]; exact List.map_congr_left fun p hp' => (hmem p hp').1.symm
    unfold Flts
    rw [e]
    have : ∀ l : List Keyed, (∀ p ∈ l, p.1 ∈ vs) → Paired FlP (l.map (fun p => plOf p.1)) (l.map (·.1)) := by
      intro l
      induction l with
      | nil => intro _; exact .nil
      | cons a l ih =>
        intro h
        obtain ⟨p, t, h1, h2⟩ := hall _ (h a List.mem_cons_self)
        refine .cons ⟨t, ?_⟩ (ih fun p hp => h p (List.mem_cons_of_mem _ hp))
        show a.1 = Value.float (F (plOf a.1)) t
        rw [h2, plOf_F (hpl p h1)]
    exact this _ fun p hp => (hmem p hp).2
  · have h1 := hl.map (fun p => plOf p.1)
    have e2 : (vs.zip vs).map (fun p => plOf p.1) = ps := by
      have : (vs.zip vs).map (fun p => plOf p.1) = ((vs.zip vs).map Prod.fst).map plOf := by rw [List.map_map]; rfl
      rw [this, List.map_fst_zip (Nat.le_refl _)]
      clear hl hmem hall hs hp this h1
      induction hS with
      | nil => rfl
      | cons g t ih =>
        obtain ⟨tk, rfl⟩ := g
        rw [List.map_cons, plOf_F (hpl _ List.mem_cons_self), ih fun p hp => hpl p (List.mem_cons_of_mem _ hp)]
    rwa [e2] at h1
  · rw [List.pairwise_iff_getElem]
    intro i j hi hj hij
    have hi' : i < xs.size := by simpa using hi
    have hj' : j < xs.size := by simpa using hj
    have h1 := hs i j (Nat.le_of_lt hij) (by rw [← hp.size_eq]; exact hj')
    obtain ⟨p, t, hp1, ex⟩ := hall _ (hmem xs[i] (by simp)).2
    obtain ⟨q, u, hq1, ey⟩ := hall _ (hmem xs[j] (by simp)).2
    rw [KK_fl hi' (hpl p hp1) (t := t) (q := xs[i].2) (Prod.ext ex rfl), KK_fl hj' (hpl q hq1) (t := u) (q := xs[j].2) (Prod.ext ey rfl)] at h1
    change decide (q < p) = false at h1
    simp only [List.getElem_map, Array.getElem_toList]
    rw [ex, ey, plOf_F (hpl p hp1), plOf_F (hpl q hq1)]
    simpa using h1

theorem sorted_fl {l : Addr} {its : Array Value} {ps : List Int} (hl : s.heap.IsList l its) (hS : Flts ps its) (hpl : ∀ p ∈ ps, isPlace p = true) (h64 : ps.length < 64)
    (h : ∀ s' D ys k ps', Keeps s s' → s.heap.get? D = none → s'.heap.get? D = some (lob ys k) → Flts ps' ys → ps'.Perm ps → ps'.Pairwise (· ≤ ·) → Q (.ref D) s') :
    wpAny (model prog w) A (call (.builtin "sorted") [.ref l]) Q E s := by
  have hsz := hS.size
  have hv : ∀ v ∈ its.toList, ∃ x t, v = .float x t := fun v hv => let ⟨p, t, _, e⟩ := flts_all hS v hv; ⟨_, t, e⟩
  refine sortedK (vs := its.toList) placeKind_oneLt (by simpa using hl) ?_ (fun v₁ v₂ rest e => keyKind_fl (by rw [← e]; exact hv)) (by simp; omega) fun st' hp hs => ?_
  · intro p hp
    rw [pairsOf_toList] at hp
    obtain ⟨q, t, h1, e⟩ := flts_all hS _ (mem_zip_self hp).2
    exact ⟨q, by rw [e]; exact keyF_F (hpl q h1)⟩
  · obtain ⟨ps', h1, h2, h3⟩ := sorted_out_fl hS hpl hp hs
    obtain ⟨e, he⟩ := sortedAll_at s.heap its.toList ((arrOf st').map (·.2))
    refine h _ _ _ e ps' ⟨_, _, rfl, fun _ _ => sortedAll_old⟩ ?_ he h1 h2 h3
    exact Heap.get?_none_of_le (Nat.le_succ _)

theorem sorted_in {l : Addr} {its : Array Value} {ns : List Int} (hl : s.heap.IsList l its) (hS : Ints ns its) (h64 : ns.length < 64)
    (h : ∀ s' D ys k ns', Keeps s s' → s.heap.get? D = none → s'.heap.get? D = some (lob ys k) → Ints ns' ys → ns'.Perm ns → ns'.Pairwise (· ≤ ·) → Q (.ref D) s') :
    wpAny (model prog w) A (call (.builtin "sorted") [.ref l]) Q E s := by
  have hsz := hS.size
  refine sorted_ints (vs := its.toList) (by simpa using hl) (ints_are hS) (by simp; omega) fun out ns' a1 a2 a3 => ?_
  obtain ⟨e, he⟩ := sortedAll_at s.heap its.toList out
  exact h _ _ _ e ns' ⟨_, _, rfl, fun _ _ => sortedAll_old⟩ (Heap.get?_none_of_le (Nat.le_succ _)) he (are_ints a1) a2 a3
end
end
end Mine

-- part L9
namespace Mine
noncomputable section

noncomputable def topOf : List Int → Int | [] => -1 | q :: qs => max q (topOf qs)
theorem topOf_le : ∀ {qs : List Int} {q : Int}, q ∈ (-1 : Int) :: qs → q ≤ topOf qs
  | [], q, h => by simp at h; subst h; decide
  | x :: qs, q, h => by
    have := topOf_le (qs := qs) (q := q)
    show q ≤ max x (topOf qs)
    simp at h this
    rcases h with h | h | h
    · have := this (.inl h); omega
    · omega
    · have := this (.inr h); omega
theorem topOf_mem : ∀ (qs : List Int), topOf qs ∈ (-1 : Int) :: qs
  | [] => by simp [topOf]
  | x :: qs => by
    have := topOf_mem qs
    simp at this ⊢
    show max x (topOf qs) = -1 ∨ max x (topOf qs) = x ∨ max x (topOf qs) ∈ qs
    by_cases h : topOf qs ≤ x
    · right; left; omega
    · have e : max x (topOf qs) = topOf qs := by omega
      rw [e]; rcases this with h | h
      · exact .inl h
      · exact .inr (.inr h)
theorem topOf_eq {qs : List Int} {M : Int} (h1 : M ∈ (-1 : Int) :: qs) (h2 : ∀ a ∈ (-1 : Int) :: qs, a ≤ M) : M = topOf qs := by
  have a := topOf_le h1
  have b := h2 _ (topOf_mem qs)
  omega
def onceP (ps qs : List Int) (i : Nat) : Bool := (ps.idxOf (ps.getD i 0) == i) && (decide (ps.getD i 0 < topOf qs) && !(qs.any (· == ps.getD i 0)))
def onceOf (ps qs : List Int) : List Int := ((List.range ps.length).filter (onceP ps qs)).map (ps.getD · 0)

theorem paired_range {F' : Int → Value → Prop} {ps : List Int} : ∀ {l : List Nat} {ys : List Value}, Paired (fun i y => ∃ n, ps[i]? = some n ∧ F' n y) l ys → Paired F' (l.map (ps.getD · 0)) ys
  | _, _, .nil => .nil
  | _, _, .cons ⟨n, h1, h2⟩ t => .cons (by show F' (ps.getD _ 0) _; rw [List.getD_eq_getElem?_getD, h1]; exact h2) (paired_range t)

section
variable {prog : Program} {w : World} {A : Around} {E : Value → Shared → Prop} {s s₀ : Shared} {Q : Value → Shared → Prop} {mg mb : Str → Option Value} {L : Addr} {m : Str → Option Value} {nw : List (Addr × Obj)} {env : Env}

theorem addL {l b : Addr} {vs ws : Array Value} (F : Sf s₀ L m nw s) (hl : s.heap.IsList l vs) (hb : s.heap.IsList b ws) (hz : vs.size ≤ 1000) (hz2 : ws.size ≤ 1000)
    (h : ∀ D s', Sf s₀ L m ((D, lob (vs ++ ws) 0) :: nw) s' → s.heap.get? D = none → Q (.ref D) s') : wpAny (model prog w) A (binaryOp .Add (.ref l) (.ref b)) Q E s := by
  refine add_lists (vs := vs.toList) (ws := ws.toList) F.fr F.nw (by simpa using hl) (by simpa using hb) (fun h' F' N' => ?_) (by have := sizeLine_eq; simp; omega)
  obtain ⟨a, b, rfl⟩ := F.sm
  have e : (vs.toList ++ ws.toList).toArray = vs ++ ws := by simp
  rw [e] at N'
  exact h _ _ ⟨⟨h', _, rfl⟩, F', N'⟩ (fresh_size _)

theorem index_in {l : Addr} {its : Array Value} {ns : List Int} {k : Int} {t : Tok} (hl : s.heap.IsList l its) (hi : Ints ns its) (hz : ns.length ≤ 1000) (hk : k ∈ ns)
    (h : Q (.int (ns.idxOf k : Nat) s.toks) { s with toks := s.toks + 1 }) : wpAny (model prog w) A (call (.builtin "list.index") [.ref l, .int k t]) Q E s := by
  obtain ⟨⟨cls, dd, data, sl⟩, ho, hc, n, hd⟩ := id hl
  simp only at hc hd
  subst hc hd
  have hsz := hi.size
  have hj : ns.idxOf k < ns.length := List.idxOf_lt_length_iff.mpr hk
  have ha := ints_are hi
  refine call_meets PySem.F.slot_list_index ⟨_, ho, rfl⟩ PySem.F.entry_list_index (PySem.F.args_list_index_2 _ _)
    (PySem.SeqAt.list_indexAt l its n dd sl (.int k t) (isInt k) (ns.idxOf k) (by omega) (by omega) ?_ fun j hjs hlt => ?_) ⟨ho, fun y hy => (eq_isInt k t ha y (by simpa using hy)).at _ _, h⟩
  · have := isInt_at k ha (ns.idxOf k) (by simp; omega) hj
    rw [Array.getElem_toList] at this
    rw [this]; simpa using List.getElem_idxOf hj
  · have := isInt_at k ha j (by simpa using hjs) (by omega)
    rw [Array.getElem_toList] at this
    rw [this]; exact ne_of_lt_idxOf hlt _

theorem itersEnum {a b : Str} {pa pb tp : Pos} {kk} {ce : Addr → Env} {s₁ : Shared} {it e l : Addr} {items : Array Value} (hh : A.handled = none) (hK : Keeps s s₁) (he : IsEnum s₁.heap e it 0 .none) (hit : s₁.heap.IsListIter it l 0) (hL : s₁.heap.IsList l items) (hL0 : s.heap.IsList l items)
    (hei : e ≠ it) (e0 : s.heap.get? e = none) (i0 : s.heap.get? it = none)
    (hl : ∀ C, (ce C).locals = C := by intro _; rfl) (ha : ∀ C, (ce C).kindOf a = some .local := by intro _; rfl) (hb : ∀ C, (ce C).kindOf b = some .local := by intro _; rfl) (hk : ∀ C, (ce C).scope.kind = .function := by intro _; rfl) (ab : a ≠ b := by decide) :
    Iters prog w A ce (.Tuple [.Name a pa, .Name b pb] kk tp) (.ref e) s s₁ items.size (fun i m => ∃ x y, (∃ t z, items[i]? = some z ∧ (#[x, y] : Array Value) = #[.int i t, z]) ∧ m a = some x ∧ m b = some y) := fun Q E hQ => by
  have hle : l ≠ e := by rintro rfl; obtain ⟨o, ho, _⟩ := hL0; rw [e0] at ho; cases ho
  have hli : l ≠ it := by rintro rfl; obtain ⟨o, ho, _⟩ := hL0; rw [i0] at ho; cases ho
  refine wpAny_pyIter_enum he ?_
  refine hQ _ _ _ _ _ (src2 hh (WalksT.enumerate hh e it l hei hle hli items).toU (fun i v hv => let ⟨t, z, _, h⟩ := hv; ⟨_, _, h⟩) (fun i h hst b hb => ?_) hl ha hb hk ab) ⟨⟨_, he⟩, hit, hL⟩ (fun b hb => ?_) hK fun b o hb q => ?_
  · simp at hb
    rcases hb with rfl | rfl
    · obtain ⟨⟨old, he⟩, _⟩ := hst; exact ⟨_, he⟩
    · obtain ⟨_, ⟨o, ho, _⟩, _⟩ := hst; exact ⟨o, ho⟩
  · simp at hb
    rcases hb with rfl | rfl | rfl
    · exact Heap.lt_size he
    · obtain ⟨o, ho, _⟩ := hit; exact Heap.lt_size ho
    · obtain ⟨o, ho, _⟩ := hL; exact Heap.lt_size ho
  · simp at q
    rcases q with rfl | rfl
    · rw [e0] at hb; cases hb
    · rw [i0] at hb; cases hb
end
end
end Mine

-- part L9b
namespace Mine
noncomputable section
section
variable {prog : Program} {w : World} {A : Around} {E : Value → Shared → Prop} {s s₀ : Shared} {Q : Value → Shared → Prop} {mg mb : Str → Option Value} {L : Addr} {m : Str → Option Value} {nw : List (Addr × Obj)} {env : Env}

theorem callB1 {M : Model} {f : Str} {p pos : Pos} {e : Expr}
    (h : wpAny M A (eval (.Name f p) env) (fun fv s₁ => ((∃ id, fv = .builtin id) ∨ ∃ T, fv = .type T) ∧ wpAny M A (eval e env) (fun v s₂ => wpAny M A (call fv [v]) Q E s₂) E s₁) E s)
    (he : starEach [e] env = (false, eval e env) :: starEach [] env := by rfl)
    (hc : eval (.Call (.Name f p) [e] [] pos) env = (do callWith pos (← eval (.Name f p) env) [] (backTo pos (starEach [e] env)) (backToKw pos (keywordEach [] env))) := by rfl) :
    wpAny M A (eval (.Call (.Name f p) [e] [] pos) env) Q E s := by
  refine Call_ (wpAny_mono h (fun fv s₁ h₁ => ?_) fun _ _ x => x) hc
  obtain ⟨hi, h₁⟩ := h₁
  have hpl : (backTo pos ((false, eval e env) :: starEach [] env)).any (·.1) = false := rfl
  have h2 : wpAny M A (spliced (backTo pos (starEach [e] env))) (fun vs s₂ => wpAny M A (call fv vs) Q E s₂) E s₁ := args_cons (wpAny_mono h₁ (fun v s₂ h₂ => args_nil h₂) fun _ _ x => x) he
  rw [he] at h2 ⊢
  rcases hi with ⟨id, rfl⟩ | ⟨T, rfl⟩
  · exact Calls.callWith_builtin hpl (Calls.evalArgs_plain h2)
  · exact PySem.callWith_type hpl (Calls.evalArgs_plain h2)

/-- what _law_alone may give -/
def AloneIs (ps qs ns : List Int) : Prop := ∃ o1 o2, ns = o1 ++ o2 ∧ o1.Perm (onceOf ps qs) ∧ o1.Pairwise (· ≤ ·) ∧ o2.Perm (ps.filter fun p => decide (topOf qs < p)) ∧ o2.Pairwise (· ≤ ·)

set_option maxHeartbeats 8000000 in
theorem alone_call {a pa oa : Addr} {its jts : Array Value} {ps qs : List Int} (G : Gd mg mb s.heap) (hf : IsFn s.heap 9 a) (hh : A.handled = none) (hroom : A.depth < recursionLimit)
    {n1 : Nat} (hle : s.heap.get? pa = some (lob its n1)) (hl2 : s.heap.IsList oa jts) (hi : Ints ps its) (hj : Ints qs jts) (z1 : ps.length ≤ 20) (z2 : qs.length ≤ 20)
    (h : ∀ s' D ys k ns, Keeps s s' → s.heap.get? D = none → s'.heap.get? D = some (lob ys k) → Ints ns ys → AloneIs ps qs ns → Q (.ref D) s') :
    wpAny (model prog w) A (call (.ref a) [.ref pa, .ref oa]) Q E s := by
  have hl : s.heap.IsList pa its := ⟨_, hle, rfl, n1, rfl⟩
  refine fnCallC G hf hroom (fun _ _ _ => by rfl) ?_ (by decide) (fun cd s₁ cells F C => ?_) (by rfl) (by rfl) (by rfl)
  · intro x hx
    have hx' : x = (("places" : Str), Value.ref pa) ∨ x = (("others" : Str), Value.ref oa) := by
      have : x ∈ [(("places" : Str), Value.ref pa), (("others" : Str), Value.ref oa)] := hx
      simpa using this
    rcases hx' with rfl | rfl
    · exact .inr ⟨by rfl, by rfl⟩
    · exact .inr ⟨by rfl, by rfl⟩
  obtain ⟨oT, oO, oP, rfl, hT, hO, hP⟩ := CellsAre.three (n₁ := ("top" : Str)) (c₁ := s.heap.objs.size + 1 + 1 + 1) (n₂ := ("others" : Str)) (c₂ := s.heap.objs.size + 1 + 1) (n₃ := ("places" : Str)) (c₃ := s.heap.objs.size + 1) (cells := cells) C
  have hT' : oT.data = .cell none := hT
  have hO' : oO.data = .cell (some (.ref oa)) := hO
  have hP' : oP.data = .cell (some (.ref pa)) := hP
  clear C hT hO hP
  have hh' : (A.deeper (envOfC (nam (pst 9)) (scp (pst 9)) s.heap.objs.size a cd)).handled = none := hh
  have lk : ∀ {s' : Shared} {l its}, s.heap.IsList l its → Up s.heap s'.heap → s'.heap.IsList l its := fun x u => let ⟨o, ho, r⟩ := x; ⟨o, u _ _ ho, r⟩
  have sz1 := hi.size
  have sz2 := hj.size
  show wpAny _ _ (execs (bdy (pst 9)) _) _ _ _
  refine wpAny_execs_cons (wpAny_Assign_Name (callB1 (bootS F G boot_max ⟨.inl ⟨_, rfl⟩, wpAny_BinOp (listE (args_cons (wpAny_UnaryOp (intK F fun s₂ t1 F k1 => neg_int (args_nil ⟨by simp, fun D1 s₃ k3 hD1 hDl1 => ?_⟩))))) ⟩)))
  have F3 := (F.tok (s₂.toks + 1)).kp k3
  refine ldCellS F3 (by rfl) (by simp) hO' (addL F3 ⟨_, hDl1, rfl, 0, rfl⟩ (lk hl2 F3.up) (by simp) (by omega) fun D2 s₄ F4 hD2 => ?_)
  have hL2 : s₄.heap.IsList D2 (#[Value.int (-1) s₂.toks] ++ jts) := ⟨_, F4.get List.mem_cons_self, rfl, 0, rfl⟩
  refine max_list_N (vs := Value.int (-1) s₂.toks :: jts.toList) (ns := -1 :: qs) hh' F4.fr F4.nw (by
    have e : (Value.int (-1) s₂.toks :: jts.toList).toArray = #[Value.int (-1) s₂.toks] ++ jts := by apply Array.ext'; simp
    rw [e]; exact hL2) (.cons _ _ (ints_are hj)) (by simp) fun h₅ M t5 tk5 Fr5 N5 hM1 hM2 => ?_
  obtain rfl : M = topOf qs := topOf_eq hM1 hM2
  have F5 : Sf s _ _ _ { s₄ with heap := h₅, toks := tk5 } := ⟨by obtain ⟨x, y, rfl⟩ := F4.sm; exact ⟨_, _, rfl⟩, Fr5, N5⟩
  have F5' := F5.sub (nw' := [(s.heap.objs.size + 1 + 1 + 1, oT), (s.heap.objs.size + 1 + 1, oO), (s.heap.objs.size + 1, oP)]) (fun p hp => by simp at hp ⊢; exact .inr hp)
  refine stCellS (own := []) F5' (by rfl) hT' (by simp) (by simp) fun s₆ oT' F6 hT6 => ?_
  have kT : s₆.heap.IsCell (s.heap.objs.size + 1 + 1 + 1) (some (.int (topOf qs) t5)) := ⟨oT', F6.get (by simp), hT6⟩
  have kO : s₆.heap.IsCell (s.heap.objs.size + 1 + 1) (some (.ref oa)) := ⟨oO, F6.get (by simp), hO'⟩
  have kP : s₆.heap.IsCell (s.heap.objs.size + 1) (some (.ref pa)) := ⟨oP, F6.get (by simp), hP'⟩
  refine wpAny_execs_cons (compAssign (s₀ := s) (cl := [(("top" : Str), s.heap.objs.size + 1 + 1 + 1), (("places" : Str), s.heap.objs.size + 1), (("others" : Str), s.heap.objs.size + 1 + 1)])
    (callB1 (bootS F6 G (v := .type "enumerate") (by decide +kernel) ⟨.inr ⟨_, rfl⟩, ldCellS F6 (by rfl) (by simp) hP' (call_enumerate_list (lk hl F6.up) fun h₇ hE hIt hsz7 hk7 => ?_)⟩)))
  refine ⟨s₆, its.size, _, onceP ps qs, fun i v => ∃ n, ps[i]? = some n ∧ IntP n v, _, _, F6, itersEnum hh' (kmk (s := s₆) hk7) hE hIt (lk hl fun b o e => hk7 b o (F6.up b o e)) (lk hl F6.up) (by exact Nat.succ_ne_self _) (Heap.get?_none_of_le (Nat.le_succ _)) (fresh_size _), by omega, ⟨?_, ?_⟩, ?_⟩
  · rintro C i s₈ m₈ E' hlt ⟨x, y, ⟨t, z, hz, hxy⟩, mx, my⟩ hn hK hC
    obtain ⟨n, tn, hn', rfl⟩ := hi.at hz
    simp at hxy
    obtain ⟨rfl, rfl⟩ := hxy
    have kT8 := kT.keeps (kup hK)
    have kO8 := kO.keeps (kup hK)
    have kP8 := kP.keeps (kup hK)
    have hle8 : s₈.heap.get? pa = some (lob its n1) := kup hK _ _ (F6.up _ _ hle)
    have hl28 : s₈.heap.IsList oa jts := lk hl2 fun b o e => kup hK b o (F6.up b o e)
    have hmem : n ∈ ps := List.mem_of_getElem? hn'
    have hgd : ps.getD i 0 = n := by rw [List.getD_eq_getElem?_getD, hn']; rfl
    have hop : onceP ps qs i = ((ps.idxOf n == i) && (decide (n < topOf qs) && !(qs.any (· == n)))) := by unfold onceP; rw [hgd]
    refine tests1 (isTrue_and (wpAny_isTrue_Compare1 (MethodCall_ (ldCellC (by exact kP8) (by rfl) (getMethod_builtin (show s₈.TypeIs (.ref pa) "list" from ⟨_, hle8, rfl⟩) PySem.F.plainAttrs_list PySem.F.slot_list_index PySem.F.type_list_index (fun b e => by cases e; exact ⟨_, hle8, rfl⟩) (callWith_method1 (args_cons (ldLoc hn my (args_nil (index_in (ns := ps) (its := its) ⟨_, hle8, rfl, n1, rfl⟩ hi (by omega) hmem ?_))))))))))
    refine ldLoc (by exact hn) mx (eq_int (wpAny_truthy_bool ?_))
    by_cases c1 : ps.idxOf n = i
    · rw [if_pos (by simp [c1])]
      refine isTrue_and (wpAny_isTrue_Compare1 (ldLoc (by exact hn) my (ldCellC (by exact kT8) (by rfl) (lt_int (wpAny_truthy_bool ?_)))))
      by_cases c2 : n < topOf qs
      · rw [if_pos (by simpa using c2)]
        refine isTrue_and (wpAny_isTrue_Compare1 (ldLoc (by exact hn) my (ldCellC (by exact kO8) (by rfl) (notin_list_ints (vs := jts.toList) (by simpa using hl28) (ints_are hj) (wpAny_truthy_bool ?_)))))
        cases c3 : qs.any (· == n)
        · rw [if_pos (by simp)]
          exact isTrue_and_nil ⟨by rw [hop, c3]; simp [c1, c2], ⟨_, _, rfl, fun _ _ e => e⟩⟩
        · rw [if_neg (by simp)]
          exact ⟨by rw [hop, c3]; simp, ⟨_, _, rfl, fun _ _ e => e⟩⟩
      · rw [if_neg (by simpa using c2)]
        exact ⟨by rw [hop]; simp [c2], ⟨_, _, rfl, fun _ _ e => e⟩⟩
    · rw [if_neg (by simp; omega)]
      exact ⟨by rw [hop]; simp [c1], ⟨_, _, rfl, fun _ _ e => e⟩⟩
  · rintro C i s₈ m₈ E' hlt _ ⟨x, y, ⟨t, z, hz, hxy⟩, mx, my⟩ hn hK hC
    obtain ⟨n, tn, hn', rfl⟩ := hi.at hz
    simp at hxy
    obtain ⟨rfl, rfl⟩ := hxy
    exact ldLoc hn my ⟨.inl ⟨n, hn', tn, rfl⟩, krefl _⟩
  intro D3 s₈ ys k3 F8 hD3 hP3
  have hO3 : Ints (onceOf ps qs) ys := by rw [sz1] at hP3; exact paired_range hP3
  have hlenO : (onceOf ps qs).length ≤ 20 := by
    unfold onceOf; rw [List.length_map]
    have := List.length_filter_le (onceP ps qs) (List.range ps.length)
    simp at this; omega
  have hL3 : s₈.heap.IsList D3 ys := ⟨_, F8.get List.mem_cons_self, rfl, k3, rfl⟩
  refine wpAny_execs_cons (wpAny_Return_some (wpAny_BinOp (callB1 (bootS F8 G boot_sorted ⟨.inl ⟨_, rfl⟩, ldS F8 (if_pos rfl) (sorted_in hL3 hO3 (by omega) fun s₉ D4 ys4 k4 o1 kk4 hD4 hDl4 hI4 hp4 hs4 => ?_)⟩))))
  have F9 := F8.add kk4 hD4 hDl4
  have kT9 : s₉.heap.IsCell (s.heap.objs.size + 1 + 1 + 1) (some (.int (topOf qs) t5)) := ⟨oT', F9.get (by simp), hT6⟩
  refine callB1 (bootS F9 G boot_sorted ⟨.inl ⟨_, rfl⟩, compEval (cl := [(("top" : Str), s.heap.objs.size + 1 + 1 + 1)]) (ldCellS F9 (by rfl) (by simp) hP' ?_)⟩)
  refine ⟨s₉, its.size, _, (fun i => decide (topOf qs < ps.getD i 0)), fun i v => ∃ n, ps[i]? = some n ∧ IntP n v, fun _ _ => False, itersList hh' (lk hl F9.up), by omega, ⟨?_, ?_⟩, ?_⟩
  · rintro C i s₁₀ m₃ E' hlt ⟨v, hv, hm⟩ hn hK hC
    obtain ⟨n, t, hn', rfl⟩ := hi.at hv
    have kT10 := kT9.keeps (kup hK)
    refine tests1 (wpAny_isTrue_Compare1 (ldLoc hn hm (ldCellC (by exact kT10) (by rfl) (gt_int (wpAny_truthy_bool ?_)))))
    exact ⟨by rw [List.getD_eq_getElem?_getD, hn']; rfl, ⟨_, _, rfl, fun _ _ e => e⟩⟩
  · rintro C i s₁₀ m₃ E' hlt _ ⟨v, hv, hm⟩ hn hK hC
    obtain ⟨n, t, hn', rfl⟩ := hi.at hv
    exact ldLoc hn hm ⟨.inl ⟨n, hn', t, rfl⟩, krefl _⟩
  intro D5 s₁₀ ys5 k5 kk5 hD5 hDl5 hP5
  have F10 := F9.add kk5 hD5 hDl5
  have hI5 : Ints (ps.filter fun p => decide (topOf qs < p)) ys5 := by
    rw [sz1] at hP5
    exact paired_filter (F' := IntP) (p := fun i => decide (topOf qs < ps.getD i 0)) (xs := ps) (fun i n hn => by rw [List.getD_eq_getElem?_getD, hn]; rfl) (hP5.mono fun i y z => by
      rcases z with z | ⟨_, _, _, _, _, z⟩
      · exact z
      · exact z.elim)
  have hlen5 := List.length_filter_le (fun p => decide (topOf qs < p)) ps
  refine sorted_in ⟨_, hDl5, rfl, k5, rfl⟩ hI5 (by omega) fun s₁₁ D6 ys6 k6 o2 kk6 hD6 hDl6 hI6 hp6 hs6 => ?_
  have F11 := F10.add kk6 hD6 hDl6
  have l1 := hp4.length_eq
  have l2 := hp6.length_eq
  have y4 := hI4.size
  have y6 := hI6.size
  refine addL F11 ⟨_, F11.get (a := D4) (o := lob ys4 k4) (by simp), rfl, k4, rfl⟩ ⟨_, hDl6, rfl, k6, rfl⟩ (by omega) (by omega) fun D7 s₁₂ F12 hD7 => ?_
  refine h s₁₂ D7 _ 0 (o1 ++ o2) F12.keeps (F11.fresh hD7) (F12.get List.mem_cons_self) ?_ ⟨o1, o2, rfl, hp4, hs4, hp6, hs6⟩
  unfold Ints; rw [Array.toList_append]; exact Paired.append hI4 hI6
end
end
end Mine

-- part P2
namespace Mine

noncomputable def cnt (v : Int) (xs ys : List Int) : Nat := if topOf ys < v then xs.count v else if v ∈ xs ∧ v ∉ ys then 1 else 0

theorem dw_mem {x v : Int} {xs : List Int} (h : v ≠ x) : v ∈ xs.dropWhile (· == x) ↔ v ∈ xs := by
  induction xs with
  | nil => simp
  | cons a l ih =>
    rw [List.dropWhile_cons]
    by_cases e : a = x
    · rw [if_pos (by simpa using e), ih]; simp; omega
    · rw [if_neg (by simpa using e)]
theorem dw_count {x v : Int} {xs : List Int} (h : v ≠ x) : (xs.dropWhile (· == x)).count v = xs.count v := by
  induction xs with
  | nil => simp
  | cons a l ih =>
    rw [List.dropWhile_cons]
    by_cases e : a = x
    · rw [if_pos (by simpa using e), ih, List.count_cons, if_neg (show ¬ ((a == v) = true) by simp; omega)]; rfl
    · rw [if_neg (by simpa using e)]
theorem dw_gt {x : Int} {xs : List Int} (h : (x :: xs).Pairwise (· ≤ ·)) : ∀ v ∈ xs.dropWhile (· == x), x < v := by
  induction xs with
  | nil => simp
  | cons a l ih =>
    intro v hv
    rw [List.dropWhile_cons] at hv
    rw [List.pairwise_cons] at h
    by_cases e : a = x
    · rw [if_pos (by simpa using e)] at hv
      subst e
      exact ih h.2 v hv
    · rw [if_neg (by simpa using e)] at hv
      have h1 := h.1 a List.mem_cons_self
      rcases List.mem_cons.mp hv with rfl | hv
      · omega
      · have h2 := (List.pairwise_cons.mp h.2).1 v hv
        omega
theorem dw_sub {x : Int} {xs : List Int} : (xs.dropWhile (· == x)).Sublist xs := List.dropWhile_sublist _
theorem top_lt {v : Int} {ys : List Int} : topOf ys < v ↔ -1 < v ∧ ∀ y ∈ ys, y < v := by
  constructor
  · intro h
    have := topOf_le (qs := ys) (q := -1) List.mem_cons_self
    exact ⟨by omega, fun y hy => by have := topOf_le (qs := ys) (List.mem_cons_of_mem _ hy); omega⟩
  · rintro ⟨h1, h2⟩
    have := topOf_mem ys
    rcases List.mem_cons.mp this with h | h
    · omega
    · exact h2 _ h

theorem merge_sub : ∀ (xs ys : List Int), (merge xs ys).1.Sublist xs ∧ (merge xs ys).2.Sublist ys := by
  intro xs ys
  induction xs, ys using merge.induct with
  | case1 ys => rw [merge]; exact ⟨List.Sublist.refl _, List.Sublist.refl _⟩
  | case2 x xs => rw [merge]; exact ⟨List.Sublist.refl _, List.nil_sublist _⟩
  | case3 x xs y ys h ih => rw [merge, if_pos h]; exact ⟨(ih.1.trans dw_sub).cons₂ _, ih.2⟩
  | case4 x xs y ys h h2 ih => rw [merge, if_neg h, if_pos h2]; exact ⟨ih.1, (ih.2.trans dw_sub).cons₂ _⟩
  | case5 x xs y ys h h2 ih => rw [merge, if_neg h, if_neg h2]; exact ⟨(ih.1.trans dw_sub).cons _, (ih.2.trans dw_sub).cons _⟩

theorem merge_swap : ∀ (xs ys : List Int), merge ys xs = ((merge xs ys).2, (merge xs ys).1) := by
  intro xs ys
  induction xs, ys using merge.induct with
  | case1 ys => rw [merge]; cases ys <;> rw [merge]
  | case2 x xs => rw [merge, merge]
  | case3 x xs y ys h ih => rw [merge, if_neg (by omega), if_pos h, merge, if_pos h, ih]
  | case4 x xs y ys h h2 ih => rw [merge, if_pos h2, merge, if_neg h, if_pos h2, ih]
  | case5 x xs y ys h h2 ih => rw [merge, if_neg h2, if_neg h, ih, ← Prod.eta (merge _ _), merge, if_neg h, if_neg h2]

theorem merge_count : ∀ (xs ys : List Int), xs.Pairwise (· ≤ ·) → ys.Pairwise (· ≤ ·) → (∀ a ∈ xs, 0 ≤ a) → (∀ a ∈ ys, 0 ≤ a) → ∀ v, (merge xs ys).1.count v = cnt v xs ys := by
  intro xs ys
  induction xs, ys using merge.induct with
  | case1 ys => intro _ _ _ _ v; rw [merge]; simp [cnt]
  | case2 x xs =>
    intro _ _ h0 _ v; rw [merge]
    unfold cnt
    by_cases hv : topOf [] < v
    · rw [if_pos hv]
    · rw [if_neg hv]
      have : v ∉ x :: xs := fun hm => by have := h0 v hm; simp [topOf] at hv; omega
      rw [if_neg (fun h => this h.1), List.count_eq_zero_of_not_mem this]
  | case3 x xs y ys h ih =>
    intro s1 s2 p1 p2 v
    have hgt := dw_gt s1
    have s1' := (List.pairwise_cons.mp s1).2.sublist (dw_sub (x := x))
    have ihv := ih s1' s2 (fun a ha => p1 a (List.mem_cons_of_mem _ (dw_sub.subset ha))) p2 v
    rw [merge, if_pos h]
    rw [List.count_cons, ihv]
    have hy : ∀ a ∈ y :: ys, x < a := fun a ha => by
      rcases List.mem_cons.mp ha with rfl | ha
      · exact h
      · have := (List.pairwise_cons.mp s2).1 a ha; omega
    unfold cnt
    by_cases e : v = x
    · subst e
      have n1 : v ∉ xs.dropWhile (· == v) := fun hm => by have := hgt v hm; omega
      have n2 : ¬ topOf (y :: ys) < v := fun ht => by have := (top_lt.mp ht).2 y List.mem_cons_self; omega
      have n3 : v ∉ y :: ys := fun hm => by have := hy v hm; omega
      have a : (if topOf (y :: ys) < v then (xs.dropWhile (· == v)).count v else if v ∈ xs.dropWhile (· == v) ∧ v ∉ y :: ys then 1 else 0) = 0 := by rw [if_neg n2, if_neg (fun hh => n1 hh.1)]
      have b : (if topOf (y :: ys) < v then (v :: xs).count v else if v ∈ v :: xs ∧ v ∉ y :: ys then 1 else 0) = 1 := by rw [if_neg n2, if_pos ⟨List.mem_cons_self, n3⟩]
      rw [a, b]; simp
    · have ne : ¬ ((x == v) = true) := by simp; omega
      rw [dw_count e, if_neg ne]
      have e1 : (v ∈ xs.dropWhile (· == x)) ↔ v ∈ x :: xs := by rw [dw_mem e]; simp [e]
      rw [List.count_cons, if_neg ne]
      simp only [e1, Nat.add_zero]
  | case4 x xs y ys h h2 ih =>
    intro s1 s2 p1 p2 v
    have s2' := (List.pairwise_cons.mp s2).2.sublist (dw_sub (x := y))
    have ihv := ih s1 s2' p1 (fun a ha => p2 a (List.mem_cons_of_mem _ (dw_sub.subset ha))) v
    rw [merge, if_neg h, if_pos h2]
    show (merge (x :: xs) (ys.dropWhile (· == y))).1.count v = _
    rw [ihv]
    have hx : ∀ a ∈ x :: xs, y < a := fun a ha => by
      rcases List.mem_cons.mp ha with rfl | ha
      · exact h2
      · have := (List.pairwise_cons.mp s1).1 a ha; omega
    unfold cnt
    by_cases hm : v ∈ x :: xs
    · have hyv := hx v hm
      have h0 := p1 v hm
      have e1 : topOf (ys.dropWhile (· == y)) < v ↔ topOf (y :: ys) < v := by
        rw [top_lt, top_lt]
        constructor
        · rintro ⟨a, b⟩
          refine ⟨a, fun z hz => ?_⟩
          rcases List.mem_cons.mp hz with rfl | hz
          · exact hyv
          · by_cases ez : z = y
            · omega
            · exact b z ((dw_mem ez).mpr hz)
        · rintro ⟨a, b⟩
          exact ⟨a, fun z hz => b z (List.mem_cons_of_mem _ (dw_sub.subset hz))⟩
      have e2 : v ∈ ys.dropWhile (· == y) ↔ v ∈ y :: ys := by rw [dw_mem (by omega)]; simp; omega
      simp only [e1, e2]
    · rw [List.count_eq_zero_of_not_mem hm]
      simp [hm]
  | case5 x xs y ys h h2 ih =>
    intro s1 s2 p1 p2 v
    obtain rfl : x = y := by omega
    have s1' := (List.pairwise_cons.mp s1).2.sublist (dw_sub (x := x))
    have s2' := (List.pairwise_cons.mp s2).2.sublist (dw_sub (x := x))
    have ihv := ih s1' s2' (fun a ha => p1 a (List.mem_cons_of_mem _ (dw_sub.subset ha))) (fun a ha => p2 a (List.mem_cons_of_mem _ (dw_sub.subset ha))) v
    rw [merge, if_neg h, if_neg h2, ihv]
    have hgt := dw_gt s1
    unfold cnt
    by_cases e : v = x
    · subst e
      have n1 : v ∉ xs.dropWhile (· == v) := fun hm => by have := hgt v hm; omega
      have n2 : ¬ topOf (v :: ys) < v := fun ht => by have := (top_lt.mp ht).2 v List.mem_cons_self; omega
      rw [List.count_eq_zero_of_not_mem n1, if_neg n2, if_neg (c := v ∈ v :: xs ∧ v ∉ v :: ys) (fun hh => hh.2 List.mem_cons_self)]
      simp [n1]
    · have ne : ¬ ((x == v) = true) := by simp; omega
      rw [dw_count e, List.count_cons, if_neg ne]
      have e1 : (v ∈ xs.dropWhile (· == x)) ↔ v ∈ x :: xs := by rw [dw_mem e]; simp [e]
      by_cases hm : v ∈ x :: xs
      · have hyv : x < v := hgt v (e1.mpr hm)
        have e3 : topOf (ys.dropWhile (· == x)) < v ↔ topOf (x :: ys) < v := by
          rw [top_lt, top_lt]
          constructor
          · rintro ⟨a, b⟩
            refine ⟨a, fun z hz => ?_⟩
            rcases List.mem_cons.mp hz with rfl | hz
            · exact hyv
            · by_cases ez : z = x
              · omega
              · exact b z ((dw_mem ez).mpr hz)
          · rintro ⟨a, b⟩
            exact ⟨a, fun z hz => b z (List.mem_cons_of_mem _ (dw_sub.subset hz))⟩
        have e2 : v ∈ ys.dropWhile (· == x) ↔ v ∈ x :: ys := by rw [dw_mem e]; simp [e]
        simp only [e1, e2, e3, Nat.add_zero]
      · have hm' : v ∉ xs := fun q => hm (List.mem_cons_of_mem _ q)
        rw [List.count_eq_zero_of_not_mem hm']
        simp [hm, e1]

theorem once_mem {ps qs : List Int} {v : Int} : v ∈ onceOf ps qs ↔ v ∈ ps ∧ v < topOf qs ∧ v ∉ qs := by
  unfold onceOf onceP
  simp only [List.mem_map, List.mem_filter, List.mem_range, Bool.and_eq_true, beq_iff_eq, decide_eq_true_eq, Bool.not_eq_true', List.any_eq_false]
  constructor
  · rintro ⟨i, ⟨hi, h1, h2, h3⟩, rfl⟩
    refine ⟨?_, h2, fun hm => h3 _ hm rfl⟩
    rw [List.getD_eq_getElem?_getD, List.getElem?_eq_getElem hi]; exact List.getElem_mem hi
  · rintro ⟨h1, h2, h3⟩
    have hi := List.idxOf_lt_length_iff.mpr h1
    have e : ps.getD (ps.idxOf v) 0 = v := by rw [List.getD_eq_getElem?_getD, List.getElem?_eq_getElem hi]; exact List.getElem_idxOf hi
    exact ⟨ps.idxOf v, ⟨hi, by rw [e], by rw [e]; exact h2, by rw [e]; intro x hx q; exact h3 (q ▸ hx)⟩, e⟩
theorem once_nodup (ps qs : List Int) : (onceOf ps qs).Nodup := by
  unfold onceOf
  rw [List.Nodup, List.pairwise_map]
  refine List.Pairwise.imp_of_mem ?_ (List.nodup_range.filter _)
  intro i j hi hj hne e
  rw [List.mem_filter] at hi hj
  have a := hi.2; have b := hj.2
  unfold onceP at a b
  simp only [Bool.and_eq_true, beq_iff_eq] at a b
  rw [e, b.1] at a
  exact hne a.1.symm

theorem sorted_eq : ∀ {l k : List Int}, l.Perm k → l.Pairwise (· ≤ ·) → k.Pairwise (· ≤ ·) → l = k
  | l, k, h, h1, h2 => List.Perm.eq_of_pairwise (fun a b _ _ x y => Int.le_antisymm x y) h1 h2 h

theorem merge_alone {ps qs ps' qs' ns : List Int} (hp : ps'.Perm ps) (hq : qs'.Perm qs) (sp : ps'.Pairwise (· ≤ ·)) (sq : qs'.Pairwise (· ≤ ·)) (p0 : ∀ a ∈ ps, 0 ≤ a) (q0 : ∀ a ∈ qs, 0 ≤ a) (h : AloneIs ps qs ns) : (merge ps' qs').1 = ns := by
  obtain ⟨o1, o2, rfl, a1, a2, a3, a4⟩ := h
  have htop : topOf qs' = topOf qs := by
    refine topOf_eq ?_ fun a ha => topOf_le ?_
    · have := topOf_mem qs'
      rcases List.mem_cons.mp this with h | h
      · rw [h]; exact List.mem_cons_self
      · exact List.mem_cons_of_mem _ (hq.mem_iff.mp h)
    · rcases List.mem_cons.mp ha with rfl | ha
      · exact List.mem_cons_self
      · exact List.mem_cons_of_mem _ (hq.mem_iff.mpr ha)
  refine sorted_eq ?_ (sp.sublist (merge_sub ps' qs').1) ?_
  · rw [List.perm_iff_count]
    intro v
    rw [merge_count ps' qs' sp sq (fun a ha => p0 a (hp.mem_iff.mp ha)) (fun a ha => q0 a (hq.mem_iff.mp ha)) v, List.count_append, a1.count_eq, a3.count_eq]
    unfold cnt
    rw [htop, hp.count_eq]
    simp only [hp.mem_iff, hq.mem_iff]
    by_cases ht : topOf qs < v
    · rw [if_pos ht, List.count_filter (by simpa using ht)]
      have : v ∉ onceOf ps qs := fun hm => by have := (once_mem.mp hm).2.1; omega
      rw [List.count_eq_zero_of_not_mem this]; omega
    · rw [if_neg ht]
      have n2 : v ∉ ps.filter fun p => decide (topOf qs < p) := fun hm => by
        have := (List.mem_filter.mp hm).2; simp at this; omega
      rw [List.count_eq_zero_of_not_mem n2]
      by_cases hv : v ∈ ps ∧ v ∉ qs
      · rw [if_pos hv]
        have hlt : v < topOf qs := by
          have h0 := p0 v hv.1
          have : v ≠ topOf qs := fun e => by
            have hm := topOf_mem qs
            rw [← e] at hm
            rcases List.mem_cons.mp hm with h | h
            · omega
            · exact hv.2 h
          omega
        have hm : v ∈ onceOf ps qs := once_mem.mpr ⟨hv.1, hlt, hv.2⟩
        have := List.Nodup.count (once_nodup ps qs) (a := v)
        rw [this, if_pos hm]
      · rw [if_neg hv]
        have : v ∉ onceOf ps qs := fun hm => hv ⟨(once_mem.mp hm).1, (once_mem.mp hm).2.2⟩
        rw [List.count_eq_zero_of_not_mem this]
  · rw [List.pairwise_append]
    refine ⟨a2, a4, fun x hx y hy => ?_⟩
    have h1 := (once_mem.mp (a1.mem_iff.mp hx)).2.1
    have h2 := (List.mem_filter.mp (a3.mem_iff.mp hy)).2
    simp at h2; omega
theorem merge_alone2 {ps qs ps' qs' ns : List Int} (hp : ps'.Perm ps) (hq : qs'.Perm qs) (sp : ps'.Pairwise (· ≤ ·)) (sq : qs'.Pairwise (· ≤ ·)) (p0 : ∀ a ∈ ps, 0 ≤ a) (q0 : ∀ a ∈ qs, 0 ≤ a) (h : AloneIs qs ps ns) : (merge ps' qs').2 = ns := by
  have := merge_alone hq hp sq sp q0 p0 h
  rw [merge_swap] at this; exact this
end Mine

-- part W4
namespace Mine
noncomputable section

local macro_rules | `(tactic| walk_at "fw") => `(tactic| first
  | ((with_reducible show wpAny _ _ (eval (.Name _ _) _) _ _ _); refine ldS (by assumption) (by rfl) ?_)
  | ((with_reducible show wpAny _ _ (eval (.BinOp _ _ _ _) _) _ _ _); refine wpAny_BinOp ?_)
  | ((with_reducible show wpAny _ _ (eval (.Constant (.float _) _ _) _) _ _ _); refine fltS (by assumption) ?_; intro s t F)
  | ((with_reducible show wpAny _ _ (storeName _ _ _) _ _ _); refine stS (by assumption) ?_; intro s F)
  | ((with_reducible show wpAny _ _ (binaryOp .Sub (.float _ _) (.float _ _)) _ _ _); refine subS (by assumption) ?_; intro s t F)
  | ((with_reducible show wpAny _ _ (binaryOp .Add (.float _ _) (.float _ _)) _ _ _); refine addS (by assumption) ?_; intro s t F)
  | ((with_reducible show wpAny _ _ (binaryOp .Div (.float _ _) (.float _ _)) _ _ _); refine divS (by assumption) (by first | assumption | decide +kernel) ?_; intro s t F)
  | ((with_reducible show wpAny _ _ (binaryOp .Mod (.float _ _) (.float _ _)) _ _ _); refine modS (by assumption) (by first | assumption | decide +kernel) ?_; intro s t F)
  | ((with_reducible show wpAny _ _ (compareOp .Eq (.float _ _) (.float _ _)) _ _ _); refine eqS (by assumption) ?_)
  | ((with_reducible show wpAny _ _ (compareOp .LtE (.float _ _) (.float _ _)) _ _ _); refine leS (by assumption) ?_)
  | ((with_reducible show wpAny _ _ (truthy (.bool _)) _ _ _); refine wpAny_truthy_bool ?_)
  | ((with_reducible show wpAny _ _ (execs (_ :: _) _) _ _ _); refine wpAny_execs_cons ?_)
  | ((with_reducible show wpAny _ _ (execs [] _) _ _ _); refine wpAny_execs_nil ?_)
  | ((with_reducible show wpAny _ _ (exec (.Assign [.Name _ _] _ _) _) _ _ _); refine wpAny_Assign_Name ?_)
  | ((with_reducible show wpAny _ _ (exec (.If _ _ _ _) _) _ _ _); refine wpAny_If (wpAny_isTrue_Compare1 ?_))
  | ((with_reducible show wpAny _ _ (exec (.Return (some _) _) _) _ _ _); refine wpAny_Return_some ?_)
  | ((with_reducible show wpAny _ _ (eval (.Tuple [_, _, _] _ _) _) _ _ _); refine tup3S ?_))

variable {prog : Program} {w : World} {A : Around} {E : Value → Shared → Prop} {s : Shared} {Q : Value → Shared → Prop} {mg mb : Str → Option Value}

set_option maxHeartbeats 8000000 in
theorem hsv_call {a : Addr} {r g b : UInt64} {t1 t2 t3 : Tok} (G : Gd mg mb s.heap) (hf : IsFn s.heap 4 a) (hh : A.handled = none) (hroom : A.depth < recursionLimit)
    (ok : hsvOk r g b = true)
    (h : ∀ s' T t' v2 v3, Keeps s s' → s'.heap.get? T = some { cls := .type "tuple", data := .seq #[.float (hsvH r g b) t', v2, v3] } → Q (.ref T) s') :
    wpAny (model prog w) A (call (.ref a) [.float r t1, .float g t2, .float b t3]) Q E s := by
  refine fnCall G hf hroom (fun _ _ _ => by rfl) (locs (by rfl)) (fun cd s₁ F => ?_) (by rfl) (by rfl) (by rfl) (by decide)
  have hh' : (A.deeper (envOf (nam (pst 4)) (scp (pst 4)) s.heap.objs.size a cd)).handled = none := hh
  show wpAny _ _ (execs (bdy (pst 4)) _) _ _ _
  refine wpAny_execs_cons ?_
  refine wpAny_Assign_Name (callE3 (bootS F G boot_max ⟨.bi, ?_⟩))
  repeat walk_at "fw"
  refine ⟨Up.refl _, maxS (by assumption) hh' ?_⟩
  intro s t F
  repeat walk_at "fw"
  refine callE3 (bootS (by assumption) G boot_min ⟨.bi, ?_⟩)
  repeat walk_at "fw"
  refine ⟨Up.refl _, minS (by assumption) hh' ?_⟩
  intro s t F
  unfold hsvOk at ok
  unfold hsvH at h
  cases hg : feq (fmin3 r g b) (fmax3 r g b)
  · simp only [hg, Bool.false_or, Bool.and_eq_true, Bool.not_eq_true'] at ok
    obtain ⟨ok1, ok2⟩ := ok
    repeat walk_at "fw"
    simp only [hg, Bool.false_eq_true, if_false]
    repeat walk_at "fw"
    cases hr : feq r (fmax3 r g b)
    · simp only [Bool.false_eq_true, if_false]
      repeat walk_at "fw"
      cases hgg : feq g (fmax3 r g b)
      · simp only [Bool.false_eq_true, if_false]
        repeat walk_at "fw"
        intro T s' k _ hT
        simp only [hg, hueOf, hr, hgg, Bool.false_eq_true, if_false, fin, f0] at h
        exact h _ T _ _ _ (ktrans (Sf.keeps (by assumption)) k) hT
      · simp only [if_true]
        repeat walk_at "fw"
        intro T s' k _ hT
        simp only [hg, hueOf, hr, hgg, Bool.false_eq_true, if_false, if_true, fin, f0] at h
        exact h _ T _ _ _ (ktrans (Sf.keeps (by assumption)) k) hT
    · simp only [if_true]
      repeat walk_at "fw"
      intro T s' k _ hT
      simp only [hg, hueOf, hr, Bool.false_eq_true, if_false, if_true, fin, f0] at h
      exact h _ T _ _ _ (ktrans (Sf.keeps (by assumption)) k) hT
  · repeat walk_at "fw"
    simp only [hg, if_true]
    repeat walk_at "fw"
    intro T s' k _ hT
    simp only [hg, if_true, fin, f0] at h
    exact h _ T _ _ _ (ktrans (Sf.keeps (by assumption)) k) hT

set_option maxHeartbeats 16000000 in
theorem hls_call {a : Addr} {r g b : UInt64} {t1 t2 t3 : Tok} (G : Gd mg mb s.heap) (hf : IsFn s.heap 3 a) (hh : A.handled = none) (hroom : A.depth < recursionLimit)
    (ok : hlsOk r g b = true)
    (h : ∀ s' T t' v2 v3, Keeps s s' → s'.heap.get? T = some { cls := .type "tuple", data := .seq #[.float (hsvH r g b) t', v2, v3] } → Q (.ref T) s') :
    wpAny (model prog w) A (call (.ref a) [.float r t1, .float g t2, .float b t3]) Q E s := by
  refine fnCall G hf hroom (fun _ _ _ => by rfl) (locs (by rfl)) (fun cd s₁ F => ?_) (by rfl) (by rfl) (by rfl) (by decide)
  have hh' : (A.deeper (envOf (nam (pst 3)) (scp (pst 3)) s.heap.objs.size a cd)).handled = none := hh
  show wpAny _ _ (execs (bdy (pst 3)) _) _ _ _
  refine wpAny_execs_cons ?_
  refine wpAny_Assign_Name (callE3 (bootS F G boot_max ⟨.bi, ?_⟩))
  repeat walk_at "fw"
  refine ⟨Up.refl _, maxS (by assumption) hh' ?_⟩
  intro s t F
  repeat walk_at "fw"
  refine callE3 (bootS (by assumption) G boot_min ⟨.bi, ?_⟩)
  repeat walk_at "fw"
  refine ⟨Up.refl _, minS (by assumption) hh' ?_⟩
  intro s t F
  unfold hlsOk at ok
  unfold hsvH at h
  cases hg : feq (fmin3 r g b) (fmax3 r g b)
  · simp only [hg, Bool.false_or, Bool.and_eq_true, Bool.not_eq_true'] at ok
    obtain ⟨ok1, ok2⟩ := ok
    repeat walk_at "fw"
    simp only [hg, Bool.false_eq_true, if_false]
    repeat walk_at "fw"
    cases hl : fle (Float64.div (Float64.add (fmax3 r g b) (fmin3 r g b)) 4611686018427387904) 4602678819172646912
    · simp only [hl, Bool.false_eq_true, if_false, Bool.not_eq_true'] at ok2 ⊢
      repeat walk_at "fw"
      cases hr : feq r (fmax3 r g b)
      · simp only [Bool.false_eq_true, if_false]
        repeat walk_at "fw"
        cases hgg : feq g (fmax3 r g b)
        · simp only [Bool.false_eq_true, if_false]
          repeat walk_at "fw"
          intro T s' k _ hT
          simp only [hg, hueOf, hr, hgg, Bool.false_eq_true, if_false, fin, f0] at h
          exact h _ T _ _ _ (ktrans (Sf.keeps (by assumption)) k) hT
        · simp only [if_true]
          repeat walk_at "fw"
          intro T s' k _ hT
          simp only [hg, hueOf, hr, hgg, Bool.false_eq_true, if_false, if_true, fin, f0] at h
          exact h _ T _ _ _ (ktrans (Sf.keeps (by assumption)) k) hT
      · simp only [if_true]
        repeat walk_at "fw"
        intro T s' k _ hT
        simp only [hg, hueOf, hr, Bool.false_eq_true, if_false, if_true, fin, f0] at h
        exact h _ T _ _ _ (ktrans (Sf.keeps (by assumption)) k) hT
    · simp only [hl, if_true, Bool.not_eq_true'] at ok2 ⊢
      repeat walk_at "fw"
      cases hr : feq r (fmax3 r g b)
      · simp only [Bool.false_eq_true, if_false]
        repeat walk_at "fw"
        cases hgg : feq g (fmax3 r g b)
        · simp only [Bool.false_eq_true, if_false]
          repeat walk_at "fw"
          intro T s' k _ hT
          simp only [hg, hueOf, hr, hgg, Bool.false_eq_true, if_false, fin, f0] at h
          exact h _ T _ _ _ (ktrans (Sf.keeps (by assumption)) k) hT
        · simp only [if_true]
          repeat walk_at "fw"
          intro T s' k _ hT
          simp only [hg, hueOf, hr, hgg, Bool.false_eq_true, if_false, if_true, fin, f0] at h
          exact h _ T _ _ _ (ktrans (Sf.keeps (by assumption)) k) hT
      · simp only [if_true]
        repeat walk_at "fw"
        intro T s' k _ hT
        simp only [hg, hueOf, hr, Bool.false_eq_true, if_false, if_true, fin, f0] at h
        exact h _ T _ _ _ (ktrans (Sf.keeps (by assumption)) k) hT
  · repeat walk_at "fw"
    simp only [hg, if_true]
    repeat walk_at "fw"
    intro T s' k _ hT
    simp only [hg, if_true, fin, f0] at h
    exact h _ T _ _ _ (ktrans (Sf.keeps (by assumption)) k) hT
end
end Mine

-- part L11a
namespace Mine
noncomputable section
section
variable {prog : Program} {w : World} {A : Around} {E : Value → Shared → Prop} {s s₀ s' : Shared} {Q : Value → Shared → Prop} {mg mb : Str → Option Value} {L : Addr} {m : Str → Option Value} {nw : List (Addr × Obj)} {env : Env}

theorem Sf.addAll {ts : List (Addr × Obj)} (F : Sf s₀ L m nw s) (k : Keeps s s') (h : ∀ p ∈ ts, s.heap.get? p.1 = none ∧ s'.heap.get? p.1 = some p.2) : Sf s₀ L m (ts ++ nw) s' := by
  have F' := F.kp k
  refine ⟨F'.sm, F'.fr, fun p hp => ?_⟩
  rcases List.mem_append.mp hp with hp | hp
  · have z := h p hp
    refine ⟨z.2, ?_, F.fresh z.1⟩
    rintro rfl
    obtain ⟨o, _, _, e, _⟩ := F.ns
    rw [e] at z; cases z.1
  · exact F'.nw p hp
theorem Sf.lax (F : Sf s₀ L m nw s) (k : Lax [L] s s') : Sf s₀ L m nw s' := by
  obtain ⟨⟨h', tk, rfl⟩, old, up⟩ := k
  obtain ⟨a, b, rfl⟩ := F.sm
  refine ⟨⟨h', tk, rfl⟩, ⟨up.ns F.fr.ns, fun b o e => old b o (fun q => ?_) (F.fr.keep b o e), F.fr.above⟩, fun p hp => ⟨old _ _ (fun q => (F.nw p hp).2.1 (by simpa using q)) (F.nw p hp).1, (F.nw p hp).2⟩⟩
  have q' : b = L := by simpa using q
  have := Heap.lt_size e
  rw [q'] at this; exact absurd F.fr.above (Nat.not_le.mpr this)
theorem Sf.mk1 {d : Addr} {o : Obj} (F : Sf s₀ L m nw s) (h : s.heap.get? d = some o) (h0 : s₀.heap.get? d = none) (hL : d ≠ L) : Sf s₀ L m ((d, o) :: nw) s :=
  ⟨F.sm, F.fr, fun p hp => by
    rcases List.mem_cons.mp hp with rfl | hp
    · exact ⟨h, hL, h0⟩
    · exact F.nw p hp⟩

/-- an item that is a spot on the ledger -/
def SpotIn (ts : List (Addr × Obj)) (n : Int) (v : Value) : Prop := ∃ T o, v = .ref T ∧ (T, o) ∈ ts ∧ SpotO n o
theorem spots_ledger {h₀ h : Heap} : ∀ {ns : List Int} {ys : List Value}, Paired (SpotV h₀ h) ns ys → ∃ ts : List (Addr × Obj), (∀ p ∈ ts, h₀.get? p.1 = none ∧ h.get? p.1 = some p.2) ∧ Paired (SpotIn ts) ns ys
  | _, _, .nil => ⟨[], by simp, .nil⟩
  | _, _, .cons ⟨T, o, e, h1, h2, h3⟩ t => by
    obtain ⟨ts, h4, h5⟩ := spots_ledger t
    refine ⟨(T, o) :: ts, fun p hp => ?_, .cons ⟨T, o, e, List.mem_cons_self, h3⟩ (h5.mono fun n v ⟨T', o', a, b, c⟩ => ⟨T', o', a, List.mem_cons_of_mem _ b, c⟩)⟩
    rcases List.mem_cons.mp hp with rfl | hp
    · exact ⟨h1, h2⟩
    · exact h4 p hp

theorem itersSpots {a b c : Str} {pa pb pc tp : Pos} {kk} {ce : Addr → Env} {ax : Addr} {items : Array Value} {ns : List Int} {ts : List (Addr × Obj)} (hh : A.handled = none) (hL : s.heap.IsList ax items) (hP : Paired (SpotIn ts) ns items.toList) (ht : ∀ p ∈ ts, s.heap.get? p.1 = some p.2)
    (hl : ∀ C, (ce C).locals = C := by intro _; rfl) (ha : ∀ C, (ce C).kindOf a = some .local := by intro _; rfl) (hb : ∀ C, (ce C).kindOf b = some .local := by intro _; rfl) (hc : ∀ C, (ce C).kindOf c = some .local := by intro _; rfl)
    (hk : ∀ C, (ce C).scope.kind = .function := by intro _; rfl) (ab : a ≠ b := by decide) (ac : a ≠ c := by decide) (bc : b ≠ c := by decide) :
    Iters prog w A ce (.Tuple [.Name a pa, .Name b pb, .Name c pc] kk tp) (.ref ax) s s items.size (fun i m => ∃ n t1 t2 t3, ns[i]? = some n ∧ m a = some (.int (red n) t1) ∧ m b = some (.int (green n) t2) ∧ m c = some (.int (blue n) t3)) := fun Q E hQ => by
  have hsz : items.size = ns.length := by simpa using hP.length.symm
  have ex : ∀ j, j < items.size → ∃ T n t1 t2 t3, items[j]? = some (.ref T) ∧ ns[j]? = some n ∧ s.heap.IsTuple T #[.int (red n) t1, .int (green n) t2, .int (blue n) t3] := fun j hj => by
    have hj' : j < ns.length := by omega
    obtain ⟨v, h1, T, o, rfl, h2, t1, t2, t3, rfl⟩ := Paired.at hP (List.getElem?_eq_getElem hj')
    exact ⟨T, _, t1, t2, t3, by simpa using h1, List.getElem?_eq_getElem hj', _, ht _ h2, rfl, 0, rfl⟩
  classical
  let Ts : Nat → Addr := fun j => if h : j < items.size then (ex j h).choose else 0
  let nsJ : Nat → Int := fun j => if h : j < items.size then (ex j h).choose_spec.choose else 0
  let vals : Nat → Array Value := fun j => if h : j < items.size then #[.int (red (ex j h).choose_spec.choose) (ex j h).choose_spec.choose_spec.choose, .int (green (ex j h).choose_spec.choose) (ex j h).choose_spec.choose_spec.choose_spec.choose, .int (blue (ex j h).choose_spec.choose) (ex j h).choose_spec.choose_spec.choose_spec.choose_spec.choose] else #[.none, .none, .none]
  have pr : ∀ j (h : j < items.size), items[j]? = some (.ref (Ts j)) ∧ (∃ n t1 t2 t3, ns[j]? = some n ∧ vals j = #[.int (red n) t1, .int (green n) t2, .int (blue n) t3]) ∧ s.heap.IsTuple (Ts j) (vals j) := fun j h => by
    have z := (ex j h).choose_spec.choose_spec.choose_spec.choose_spec.choose_spec
    simp only [Ts, vals, dif_pos h]
    exact ⟨z.1, ⟨_, _, _, _, z.2.1, rfl⟩, z.2.2⟩
  have hne : ax ≠ s.heap.objs.size := by obtain ⟨o, ho, _⟩ := hL; exact Nat.ne_of_lt (Heap.lt_size ho)
  have lt : ∀ j, j < items.size → Ts j < s.heap.objs.size := fun j hj => by obtain ⟨o, ho, _⟩ := (pr j hj).2.2; exact Heap.lt_size ho
  refine wpAny_pyIter_list hL ?_
  have S := src3 (a := a) (b := b) (c := c) (pa := pa) (pb := pb) (pc := pc) (tp := tp) (kk := kk) (ce := ce) hh ((WalksU.listOfTuples (prog := prog) (w := w) hh s.heap.objs.size ax hne items Ts vals (fun j hj => (pr j hj).1) (fun j hj => Nat.ne_of_lt (lt j hj))).bound)
    (fun i v hv => by obtain ⟨hi, rfl⟩ := hv; obtain ⟨n, t1, t2, t3, _, e⟩ := (pr i hi).2.1; exact ⟨_, _, _, e⟩) (fun i h hst b hb => by obtain rfl := List.mem_singleton.mp hb; obtain ⟨o, ho, _⟩ := hst.1; exact ⟨o, ho⟩) hl ha hb hc hk ab ac bc
  have S' : Src prog w A s.heap.objs.size _ _ (.Tuple [.Name a pa, .Name b pb, .Name c pc] kk tp) ce items.size _ (fun i m => ∃ n t1 t2 t3, ns[i]? = some n ∧ m a = some (.int (red n) t1) ∧ m b = some (.int (green n) t2) ∧ m c = some (.int (blue n) t3)) :=
    { S with item := fun i C s m Q E hi hC hst hn hQ => S.item i C s m Q E hi hC hst hn fun m' h' tk hP => hQ m' h' tk (by
        obtain ⟨x, y, z, ⟨hi', hv⟩, h1, h2, h3⟩ := hP
        obtain ⟨n, t1, t2, t3, hn', e⟩ := (pr i hi').2.1
        rw [e] at hv
        simp at hv
        obtain ⟨rfl, rfl, rfl⟩ := hv
        exact ⟨n, t1, t2, t3, hn', h1, h2, h3⟩) }
  refine hQ _ _ _ _ _ S' ⟨⟨_, Heap.get?_push_size _ rfl, rfl, rfl⟩, hL.push _, fun k hk => (pr k hk).2.2.push _⟩ (fun b hb => ?_) (kpush _ _) fun b o e q => ?_
  · show b < (s.heap.push _).objs.size
    rw [Heap.size_push]
    rcases List.mem_cons.mp hb with rfl | hb
    · exact Nat.lt_succ_self _
    · rcases List.mem_cons.mp hb with rfl | hb
      · obtain ⟨o, ho, _⟩ := hL; exact Nat.lt_succ_of_lt (Heap.lt_size ho)
      · obtain ⟨k, hk, rfl⟩ := List.mem_map.mp hb
        exact Nat.lt_succ_of_lt (lt k (List.mem_range.mp hk))
  · obtain rfl := List.mem_singleton.mp q; exact absurd (Heap.lt_size e) (Nat.lt_irrefl _)

theorem copyL {l : Addr} {items : Array Value} (F : Sf s₀ L m nw s) (hl : s.heap.IsList l items) (hz : items.size ≤ 1000)
    (h : ∀ D s' k, Sf s₀ L m ((D, lob items k) :: nw) s' → s.heap.get? D = none → Keeps s s' → Q (.ref D) s') : wpAny (model prog w) A (call (.type "list") [.ref l]) Q E s := by
  obtain ⟨o, ho, hc, n, hd⟩ := hl
  refine call_list_seq (hsz := by have := sizeLine_eq; omega) l (.inl rfl) ho hc hd fun h' c' hk hD => ?_
  have k : Keeps s { s with heap := h' } := ⟨h', _, rfl, hk⟩
  exact h _ _ c' (F.add k (fresh_size _) hD) (fresh_size _) k

theorem part8 {n : Int} (h : 0 ≤ n) : (0 ≤ red n ∧ red n < 8) ∧ (0 ≤ green n ∧ green n < 8) ∧ (0 ≤ blue n ∧ blue n < 8) := by
  unfold red green blue; omega
theorem hsv_fact {r g b : Int} (hr : 0 ≤ r ∧ r < 8) (hg : 0 ≤ g ∧ g < 8) (hb : 0 ≤ b ∧ b < 8) : hsvOk (fx r) (fx g) (fx b) = true ∧ hsvH (fx r) (fx g) (fx b) = F (place r g b) ∧ isPlace (place r g b) = true := by
  obtain ⟨r, rfl⟩ := Int.eq_ofNat_of_zero_le hr.1
  obtain ⟨g, rfl⟩ := Int.eq_ofNat_of_zero_le hg.1
  obtain ⟨b, rfl⟩ := Int.eq_ofNat_of_zero_le hb.1
  exact hsv_factN (by omega) (by omega) (by omega)
theorem hls_fact {r g b : Int} (hr : 0 ≤ r ∧ r < 8) (hg : 0 ≤ g ∧ g < 8) (hb : 0 ≤ b ∧ b < 8) : hlsOk (fy r) (fy g) (fy b) = true ∧ hsvH (fy r) (fy g) (fy b) = F (turned r g b) ∧ isPlace (turned r g b) = true := by
  obtain ⟨r, rfl⟩ := Int.eq_ofNat_of_zero_le hr.1
  obtain ⟨g, rfl⟩ := Int.eq_ofNat_of_zero_le hg.1
  obtain ⟨b, rfl⟩ := Int.eq_ofNat_of_zero_le hb.1
  exact hls_factN (by omega) (by omega) (by omega)
theorem fx_all : (d8.all fun r => !Float64.isInf (fx r)) = true := by decide +kernel
theorem fx_fin {r : Int} (hr : 0 ≤ r ∧ r < 8) : ¬ Float64.isInf (fx r) = true := by
  have := List.all_eq_true.mp fx_all r (in8 hr.1 hr.2)
  simpa using this
theorem div8 {r : Int} {t u : Tok} (hr : 0 ≤ r ∧ r < 8) (h : ∀ t' tk, Q (.float (fx r) t') { s with toks := tk }) : wpAny (model prog w) A (binaryOp .Div (.int r t) (.int 8 u)) Q E s :=
  AutoIntOps.truediv_2 (by decide) (fx_fin hr) (h _ _)
theorem place_nonneg {p : Int} (h : isPlace p = true) : 0 ≤ p := by
  have : (ps.all fun p => decide (0 ≤ p)) = true := by decide +kernel
  unfold isPlace at h
  rw [List.contains_iff_mem] at h
  simpa using List.all_eq_true.mp this p h
end
end
end Mine

-- part L11d
namespace Mine
noncomputable section

def own8 : List Int := [63, 27, 448, 325, 130, 575, 721, 804]
def nums (ns : List Int) : List Int := (own8 ++ ns.take 8).map (· % 1024)
theorem nums_range {ns : List Int} : ∀ n ∈ nums ns, 0 ≤ n ∧ n < 1024 := by
  intro n hn
  unfold nums at hn
  obtain ⟨a, _, rfl⟩ := List.mem_map.mp hn
  omega
theorem nums_len {ns : List Int} : (nums ns).length ≤ 16 := by
  unfold nums; simp [own8]; omega
def placesOf (ns : List Int) : List Int := (spotsOf (nums ns) 0).map fun n => place (red n) (green n) (blue n)
def othersOf (ns : List Int) : List Int := (spotsOf (nums ns) 1).map fun n => turned (red n) (green n) (blue n)
theorem spots_len {ns : List Int} {k : Int} : (spotsOf (nums ns) k).length ≤ 16 := Nat.le_trans (List.length_filter_le _ _) nums_len
theorem spots_nonneg {ns : List Int} {k n : Int} (h : n ∈ spotsOf (nums ns) k) : 0 ≤ n := (nums_range n (List.mem_filter.mp h).1).1
theorem places_len {ns : List Int} : (placesOf ns).length ≤ 16 := by unfold placesOf; rw [List.length_map]; exact spots_len
theorem others_len {ns : List Int} : (othersOf ns).length ≤ 16 := by unfold othersOf; rw [List.length_map]; exact spots_len
theorem places_place {ns : List Int} : ∀ p ∈ placesOf ns, isPlace p = true := by
  intro p hp
  obtain ⟨n, hn, rfl⟩ := List.mem_map.mp hp
  have := part8 (spots_nonneg hn)
  exact (hsv_fact this.1 this.2.1 this.2.2).2.2
theorem others_place {ns : List Int} : ∀ p ∈ othersOf ns, isPlace p = true := by
  intro p hp
  obtain ⟨n, hn, rfl⟩ := List.mem_map.mp hp
  have := part8 (spots_nonneg hn)
  exact (hls_fact this.1 this.2.1 this.2.2).2.2
/-- from indices to the list -/
theorem paired_idx {α β : Type} {G : β → Value → Prop} {f : α → β} {xs : List α} {ys : List Value} {n : Nat} (hn : n = xs.length) (h : Paired (fun i y => ∃ a, xs[i]? = some a ∧ G (f a) y) ((List.range n).filter fun _ => true) ys) : Paired G (xs.map f) ys := by
  subst hn
  have := paired_filter (F' := fun a y => G (f a) y) (p := fun _ => true) (q := fun _ => true) (xs := xs) (fun _ _ _ => rfl) h
  rw [List.filter_eq_self.mpr (by simp)] at this
  exact paired_map this

section
variable {prog : Program} {w : World} {A : Around} {E : Value → Shared → Prop} {s s₀ s₁ : Shared} {Q : Value → Shared → Prop} {mg mb : Str → Option Value} {L : Addr} {m : Str → Option Value} {nw : List (Addr × Obj)} {env : Env}

theorem upto8 {sc : Addr} {vs : List Value} {p1 p2 p3 p4 : Pos} {kk} {x : Str} (F : Sf s₀ env.locals m nw s) (hL : s.heap.IsList sc vs.toArray) (hx : m x = some (.ref sc)) (hz : vs.length ≤ 63)
    (h : ∀ D s', Sf s₀ env.locals m ((D, lob (vs.take 8).toArray 0) :: nw) s' → s.heap.get? D = none → Keeps s s' → Q (.ref D) s')
    (hk : env.scope.kind = .function := by rfl) (hl : env.kindOf x = some .local := by rfl) (hd : (x == ("__debug__" : Str)) = false := by decide) :
    wpAny (model prog w) A (eval (.Subscript (.Name x p1) (.Slice none (some (.Constant (.int 8) kk p2)) none p3) p4) env) Q E s := by
  refine Subscript_ (ldS F hx (wpAny_Slice (wpAny_evalPart_none (wpAny_evalPart_some (intK F fun s₂ t F2 k2 => wpAny_evalPart_none ?_)))) hk hl hd)
  have hl' : s₂.heap.IsList sc vs.toArray := by obtain ⟨o, ho, r⟩ := hL; exact ⟨o, kup k2 _ _ ho, r⟩
  refine subscriptTail_ops (Heap.IsList.typeIs (s := { s₂ with heap := s₂.heap.push { cls := .type "slice", data := .fields #[.none, .int 8 t, .none] } }) (hl'.push _)) list_getitem_lookup
    (wpAny_getItem_list_slice (hl'.push _) (Heap.IsSliceOf.new ..) .none (.int _ _) .none (by simp) ?_ (by have := sizeLine_eq; simp; omega)) (by with_unfolding_all rfl) (by intro _; with_unfolding_all rfl)
  rw [show slicePick vs.toArray none (some 8) none = (vs.take 8).toArray from slicePick_upto' vs.toArray 8]
  have k3 : Keeps s₂ { s₂ with heap := s₂.heap.push { cls := .type "slice", data := .fields #[.none, .int 8 t, .none] } } := kpush _ _
  refine h _ _ ((F2.kp k3).add (kpush _ _) (fresh_size _) (Heap.get?_push_size _ rfl)) ?_ (ktrans k2 (ktrans k3 (kpush _ _)))
  have k5 := ktrans k2 k3
  cases e : s.heap.get? (s₂.heap.push { cls := .type "slice", data := .fields #[.none, .int 8 t, .none] }).objs.size with
  | none => rfl
  | some o => exact absurd (Heap.lt_size (kup k5 _ _ e)) (Nat.lt_irrefl _)

/-- room for the calls -/
structure Rm (A : Around) : Prop where
  hh : A.handled = none
  r0 : A.depth < recursionLimit
  r1 : A.depth + 1 < recursionLimit
  u : A.units + 110 < cLine
  u64 : A.units + 64 < cLine
theorem Rm.of {A : Around} {env : Env} (hh : A.handled = none) (hroom : A.depth + 10 < recursionLimit) (hu : A.units + 300 < cLine) : Rm (A.deeper env) :=
  ⟨hh, by show A.depth + 1 < recursionLimit; omega, by show A.depth + 1 + 1 < recursionLimit; omega, by show A.units + 3 + 110 < cLine; omega, by show A.units + 3 + 64 < cLine; omega⟩
theorem isl {s' : Shared} {l : Addr} {its : Array Value} (x : s.heap.IsList l its) (u : Up s.heap s'.heap) : s'.heap.IsList l its := let ⟨o, ho, r⟩ := x; ⟨o, u _ _ ho, r⟩
/-- law's frame -/
def lenv (L a : Addr) (cd : Value) : Env := envOf (nam (pst 11)) (scp (pst 11)) L a cd
end
end
end Mine

-- part L11A
namespace Mine
noncomputable section
section
variable {prog : Program} {w : World} {A : Around} {E : Value → Shared → Prop} {s s₀ s₁ : Shared} {Q : Value → Shared → Prop} {mg mb : Str → Option Value} {L : Addr} {m : Str → Option Value} {nw : List (Addr × Obj)} {env : Env}

set_option maxHeartbeats 8000000 in
theorem law_A {sc a : Addr} {cd : Value} {vs : List Value} {ns : List Int} (G : Gd mg mb s.heap) (R : Rm A)
    (hL : s.heap.IsList sc vs.toArray) (hI : IntsAre vs ns) (hlen : ns.length ≤ 63)
    (F : Sf s s.heap.objs.size (fun x => List.lookup x [(("script" : Str), Value.ref sc)].reverse) [] s₁) {QQ : Flow → Shared → Prop}
    (hcont : ∀ s' m nw Df Ds yf ys kf ks ts1 ts2, Sf s (lenv s.heap.objs.size a cd).locals m nw s' → m "first" = some (.ref Df) → m "second" = some (.ref Ds) → (Df, lob yf kf) ∈ nw → (Ds, lob ys ks) ∈ nw → (∀ p ∈ ts1, p ∈ nw) → (∀ p ∈ ts2, p ∈ nw) →
      Paired (SpotIn ts1) (spotsOf (nums ns) 0) yf.toList → Paired (SpotIn ts2) (spotsOf (nums ns) 1) ys.toList →
      wpAny (model prog w) A (execs ((bdy (pst 11)).drop 3) (lenv s.heap.objs.size a cd)) QQ (fun _ _ => False) s') :
    wpAny (model prog w) A (execs (bdy (pst 11)) (lenv s.heap.objs.size a cd)) QQ (fun _ _ => False) s₁ := by
  have hlv := hI.length
  change Sf s (lenv s.heap.objs.size a cd).locals _ _ _ at F
  show wpAny _ _ (execs (bdy (pst 11)) _) _ _ _
  -- numbers
  refine wpAny_execs_cons ?_
  refine compAssign (s₀ := s) (cl := []) ?_
  refine wpAny_BinOp ?_
  refine listE ?_
  refine args_cons (intK F fun s₂ a1 F _ => ?_)
  refine args_cons (intK F fun s₂ a2 F _ => ?_)
  refine args_cons (intK F fun s₂ a3 F _ => ?_)
  refine args_cons (intK F fun s₂ a4 F _ => ?_)
  refine args_cons (intK F fun s₂ a5 F _ => ?_)
  refine args_cons (intK F fun s₂ a6 F _ => ?_)
  refine args_cons (intK F fun s₂ a7 F _ => ?_)
  refine args_cons (intK F fun s₂ a8 F _ => ?_)
  refine args_nil ⟨by simp, fun D1 s₃ k3 hD1 hDl1 => ?_⟩
  have F3 := F.add k3 hD1 hDl1
  refine upto8 F3 (isl hL F3.up) (by rfl) (by omega) fun D2 s₄ F4 hD2 k4 => ?_
  refine addL F4 ⟨_, F4.get (List.mem_cons_of_mem _ List.mem_cons_self), rfl, 0, rfl⟩ ⟨_, F4.get List.mem_cons_self, rfl, 0, rfl⟩ (by simp) (by simp; omega) fun D3 s₅ F5 hD3 => ?_
  have hI5 : Ints (own8 ++ ns.take 8) (#[Value.int 63 a1, .int 27 a2, .int 448 a3, .int 325 a4, .int 130 a5, .int 575 a6, .int 721 a7, .int 804 a8] ++ (vs.take 8).toArray) := by
    unfold Ints; rw [Array.toList_append]
    refine Paired.append (.cons ⟨_, rfl⟩ (.cons ⟨_, rfl⟩ (.cons ⟨_, rfl⟩ (.cons ⟨_, rfl⟩ (.cons ⟨_, rfl⟩ (.cons ⟨_, rfl⟩ (.cons ⟨_, rfl⟩ (.cons ⟨_, rfl⟩ .nil)))))))) (are_ints (hI.take 8))
  have sz5 := hI5.size
  have hn16 : (own8 ++ ns.take 8).length ≤ 16 := by simp [own8]; omega
  refine ⟨s₅, _, _, fun _ => true, fun i v => ∃ n, (own8 ++ ns.take 8)[i]? = some n ∧ IntP (n % 1024) v, _, _, F5, itersList R.hh ⟨_, F5.get List.mem_cons_self, rfl, 0, rfl⟩, by omega, ⟨?_, ?_⟩, ?_⟩
  · rintro C i s₆ m₃ E' hlt ⟨v, hv, hm⟩ hn hK hC
    exact tests0 ⟨rfl, krefl _⟩
  · rintro C i s₆ m₃ E' hlt _ ⟨v, hv, hm⟩ hn hK hC
    obtain ⟨n, t, hn', rfl⟩ := hI5.at hv
    refine wpAny_BinOp (ldLoc hn hm (wpAny_Constant_int (fmodS (by decide) ?_)))
    exact ⟨.inl ⟨n, hn', _, rfl⟩, ⟨_, _, rfl, fun _ _ e => e⟩⟩
  intro Dn s₆ ysn kn F6 hDn hPn
  have hIn : Ints (nums ns) ysn := paired_idx (f := (· % 1024)) (by omega) hPn
  have l1 := nums_len (ns := ns)
  obtain ⟨sa, hsa, hsf⟩ := (F6.gd G).is rec4
  refine wpAny_execs_cons (wpAny_Assign_Name (callE2 (globS (i := 7) F6 G hsa ⟨.fn hsf, ldS F6 (if_pos rfl) (intK F6 fun s₇ t7 F7 k7 => ⟨kup k7, spots_call (F7.gd G) (hsf.up (kup k7)) R.hh R.r0 ⟨_, F7.get List.mem_cons_self, rfl, kn, rfl⟩ hIn nums_range (by omega) fun s₈ Df yf kf k8 hDf hDlf hPf => ?_⟩)⟩)))
  obtain ⟨ts1, ht1, hPf⟩ := spots_ledger hPf
  have F8 := (F7.addAll k8 ht1).mk1 hDlf (F7.fresh hDf) (by rintro rfl; obtain ⟨o, _, _, e, _⟩ := F7.ns; rw [hDf] at e; cases e)
  refine stS F8 fun s₉ F9 => ?_
  obtain ⟨sa, hsa, hsf⟩ := (F9.gd G).is rec4
  refine wpAny_execs_cons (wpAny_Assign_Name (callE2 (globS (i := 7) F9 G hsa ⟨.fn hsf, ldS F9 ((if_neg (by decide)).trans (if_pos rfl)) (intK F9 fun s₁₀ t10 F10 k10 => ⟨kup k10, spots_call (F10.gd G) (hsf.up (kup k10)) R.hh R.r0 ⟨_, F10.get (a := Dn) (o := lob ysn kn) (by simp), rfl, kn, rfl⟩ hIn nums_range (by omega) fun s₁₁ Ds ys ks k11 hDs hDls hPs => ?_⟩)⟩)))
  obtain ⟨ts2, ht2, hPs⟩ := spots_ledger hPs
  have F11 := (F10.addAll k11 ht2).mk1 hDls (F10.fresh hDs) (by rintro rfl; obtain ⟨o, _, _, e, _⟩ := F10.ns; rw [hDs] at e; cases e)
  refine stS F11 fun s₁₂ F12 => ?_
  refine hcont s₁₂ _ _ Df Ds yf ys kf ks ts1 ts2 F12 ((if_neg (by decide)).trans (if_pos rfl)) (if_pos rfl) ?_ ?_ ?_ ?_ hPf hPs
  · simp
  · simp
  · intro p hp; simp [hp]
  · intro p hp; simp [hp]
end
end
end Mine

-- part L11B
namespace Mine
noncomputable section
section
variable {prog : Program} {w : World} {A : Around} {E : Value → Shared → Prop} {s s₀ s₁ : Shared} {Q : Value → Shared → Prop} {mg mb : Str → Option Value} {L : Addr} {m : Str → Option Value} {nw : List (Addr × Obj)} {env : Env}

def tup2 (a b : Value) : Obj := { cls := .type "tuple", data := .seq #[a, b] }

set_option maxHeartbeats 4000000 in
theorem law_B1 {a : Addr} {cd : Value} {ns : List Int} (G : Gd mg mb s.heap) (R : Rm A) {sM : Shared} {Df : Addr} {yf : Array Value} {kf : Nat} {ts1 : List (Addr × Obj)}
    (F : Sf s (lenv s.heap.objs.size a cd).locals m nw sM) (h1 : m "first" = some (.ref Df)) (h3 : (Df, lob yf kf) ∈ nw) (h5 : ∀ p ∈ ts1, p ∈ nw) (h7 : Paired (SpotIn ts1) (spotsOf (nums ns) 0) yf.toList) {QQ : Flow → Shared → Prop}
    (hcont : ∀ s' Dh yh kh ps', Sf s (lenv s.heap.objs.size a cd).locals (fun y => if y = "hues" then some (.ref Dh) else m y) ((Dh, lob yh kh) :: nw) s' → Flts ps' yh → ps'.Perm (placesOf ns) → ps'.Pairwise (· ≤ ·) →
      wpAny (model prog w) A (execs ((bdy (pst 11)).drop 4) (lenv s.heap.objs.size a cd)) QQ (fun _ _ => False) s') :
    wpAny (model prog w) A (execs ((bdy (pst 11)).drop 3) (lenv s.heap.objs.size a cd)) QQ (fun _ _ => False) sM := by
  refine wpAny_execs_cons (wpAny_Assign_Name (callB1 (bootS F G boot_sorted ⟨.inl ⟨_, rfl⟩, compEval (cl := []) (ldS F h1 ?_)⟩)))
  have hsz : yf.size = (spotsOf (nums ns) 0).length := by simpa using h7.length.symm
  have hz := spots_len (ns := ns) (k := 0)
  refine ⟨sM, _, _, fun _ => true, fun i v => ∃ n, (spotsOf (nums ns) 0)[i]? = some n ∧ FlP (place (red n) (green n) (blue n)) v, fun _ _ => False, itersSpots R.hh ⟨_, F.get h3, rfl, kf, rfl⟩ h7 (fun p hp => F.get (h5 p hp)), by omega, ⟨?_, ?_⟩, ?_⟩
  · rintro C i s₆ m₃ E' hlt _ hn hK hC
    exact tests0 ⟨rfl, krefl _⟩
  · rintro C i s₆ m₃ E' hlt _ ⟨n, t1, t2, t3, hn', mr, mg', mb'⟩ hn hK hC
    have p8 := part8 (spots_nonneg (List.mem_of_getElem? hn'))
    have fact := hsv_fact p8.1 p8.2.1 p8.2.2
    have G₆ := G.up (fun b o e => kup hK b o (F.up b o e))
    obtain ⟨fa, hfa, hff⟩ := G₆.is rec2
    refine Subscript_ (callE3 (ldGlob G₆ hfa ⟨.fn hff, ?_⟩))
    refine wpAny_BinOp (ldLoc hn mr (wpAny_Constant_int (div8 p8.1 fun ta tka => ?_)))
    refine wpAny_BinOp (ldLoc (by exact hn) mg' (wpAny_Constant_int (div8 p8.2.1 fun tb tkb => ?_)))
    refine wpAny_BinOp (ldLoc (by exact hn) mb' (wpAny_Constant_int (div8 p8.2.2 fun tc tkc => ⟨Up.refl _, ?_⟩)))
    refine hsv_call (by exact G₆) (by exact hff) R.hh R.r0 fact.1 fun s₇ T t' v2 v3 k7 hT => ?_
    refine wpAny_Constant_int (item_tupleT (l := [.float (hsvH (fx (red n)) (fx (green n)) (fx (blue n))) t', v2, v3]) (j := 0) ⟨_, hT, rfl, 0, rfl⟩ (by decide) (by decide) (by rfl) (by rfl) ?_)
    refine ⟨.inl ⟨n, hn', t', by rw [fact.2.1]⟩, ?_⟩
    exact ktrans (b := { s₆ with toks := tkc }) ⟨_, _, rfl, fun _ _ e => e⟩ (ktrans k7 (ktok _ _))
  · intro D s' ys k hK hD hDl hP
    have hF : Flts (placesOf ns) ys := paired_idx (f := fun n => place (red n) (green n) (blue n)) (xs := spotsOf (nums ns) 0) hsz (hP.mono fun i y z => by
      rcases z with z | ⟨_, _, _, _, _, z⟩
      · exact z
      · exact z.elim)
    have hpl := places_len (ns := ns)
    refine sorted_fl ⟨_, hDl, rfl, k, rfl⟩ hF places_place (by omega) fun s₈ Dh yh kh ps' k8 hDh hDlh hFh hp hs => ?_
    have F8 := (F.kp hK).add k8 hDh hDlh
    exact stS F8 fun s₉ F9 => hcont s₉ Dh yh kh ps' F9 hFh hp hs
end
end
end Mine

-- part L11B2
namespace Mine
noncomputable section
section
variable {prog : Program} {w : World} {A : Around} {E : Value → Shared → Prop} {s s₀ s₁ : Shared} {Q : Value → Shared → Prop} {mg mb : Str → Option Value} {L : Addr} {m : Str → Option Value} {nw : List (Addr × Obj)} {env : Env}

set_option maxHeartbeats 4000000 in
theorem law_B2 {a : Addr} {cd : Value} {ns : List Int} (G : Gd mg mb s.heap) (R : Rm A) {sM : Shared} {Df : Addr} {yf : Array Value} {kf : Nat} {ts1 : List (Addr × Obj)}
    (F : Sf s (lenv s.heap.objs.size a cd).locals m nw sM) (h1 : m "second" = some (.ref Df)) (h3 : (Df, lob yf kf) ∈ nw) (h5 : ∀ p ∈ ts1, p ∈ nw) (h7 : Paired (SpotIn ts1) (spotsOf (nums ns) 1) yf.toList) {QQ : Flow → Shared → Prop}
    (hcont : ∀ s' Dh yh kh ps', Sf s (lenv s.heap.objs.size a cd).locals (fun y => if y = "turned" then some (.ref Dh) else m y) ((Dh, lob yh kh) :: nw) s' → Flts ps' yh → ps'.Perm (othersOf ns) → ps'.Pairwise (· ≤ ·) →
      wpAny (model prog w) A (execs ((bdy (pst 11)).drop 5) (lenv s.heap.objs.size a cd)) QQ (fun _ _ => False) s') :
    wpAny (model prog w) A (execs ((bdy (pst 11)).drop 4) (lenv s.heap.objs.size a cd)) QQ (fun _ _ => False) sM := by
  refine wpAny_execs_cons (wpAny_Assign_Name (callB1 (bootS F G boot_sorted ⟨.inl ⟨_, rfl⟩, compEval (cl := []) (ldS F h1 ?_)⟩)))
  have hsz : yf.size = (spotsOf (nums ns) 1).length := by simpa using h7.length.symm
  have hz := spots_len (ns := ns) (k := 1)
  refine ⟨sM, _, _, fun _ => true, fun i v => ∃ n, (spotsOf (nums ns) 1)[i]? = some n ∧ FlP (turned (red n) (green n) (blue n)) v, fun _ _ => False, itersSpots R.hh ⟨_, F.get h3, rfl, kf, rfl⟩ h7 (fun p hp => F.get (h5 p hp)), by omega, ⟨?_, ?_⟩, ?_⟩
  · rintro C i s₆ m₃ E' hlt _ hn hK hC
    exact tests0 ⟨rfl, krefl _⟩
  · rintro C i s₆ m₃ E' hlt _ ⟨n, t1, t2, t3, hn', mr, mg', mb'⟩ hn hK hC
    have p8 := part8 (spots_nonneg (List.mem_of_getElem? hn'))
    have fact := hls_fact p8.1 p8.2.1 p8.2.2
    have G₆ := G.up (fun b o e => kup hK b o (F.up b o e))
    obtain ⟨fa, hfa, hff⟩ := G₆.is rec1
    refine Subscript_ (callE3 (ldGlob G₆ hfa ⟨.fn hff, ?_⟩))
    refine wpAny_BinOp (wpAny_Constant_int (wpAny_BinOp (ldLoc (by exact hn) mr (wpAny_Constant_int (div8 p8.1 fun ta tka => AutoFloatOps.sub_if_1 (by decide +kernel) ?_)))))
    refine wpAny_BinOp (wpAny_Constant_int (wpAny_BinOp (ldLoc (by exact hn) mg' (wpAny_Constant_int (div8 p8.2.1 fun tb tkb => AutoFloatOps.sub_if_1 (by decide +kernel) ?_)))))
    refine wpAny_BinOp (wpAny_Constant_int (wpAny_BinOp (ldLoc (by exact hn) mb' (wpAny_Constant_int (div8 p8.2.2 fun tc tkc => AutoFloatOps.sub_if_1 (by decide +kernel) ⟨Up.refl _, ?_⟩)))))
    refine hls_call (r := fy (red n)) (g := fy (green n)) (b := fy (blue n)) (by exact G₆) (by exact hff) R.hh R.r0 fact.1 fun s₇ T t' v2 v3 k7 hT => ?_
    refine wpAny_Constant_int (item_tupleT (l := [.float (hsvH (fy (red n)) (fy (green n)) (fy (blue n))) t', v2, v3]) (j := 0) ⟨_, hT, rfl, 0, rfl⟩ (by decide) (by decide) (by rfl) (by rfl) ?_)
    refine ⟨.inl ⟨n, hn', t', by rw [fact.2.1]⟩, ?_⟩
    exact ktrans (b := { s₆ with toks := _ }) ⟨_, _, rfl, fun _ _ e => e⟩ (ktrans k7 (ktok _ _))
  · intro D s' ys k hK hD hDl hP
    have hF : Flts (othersOf ns) ys := paired_idx (f := fun n => turned (red n) (green n) (blue n)) (xs := spotsOf (nums ns) 1) hsz (hP.mono fun i y z => by
      rcases z with z | ⟨_, _, _, _, _, z⟩
      · exact z
      · exact z.elim)
    have hpl := others_len (ns := ns)
    refine sorted_fl ⟨_, hDl, rfl, k, rfl⟩ hF others_place (by omega) fun s₈ Dh yh kh ps' k8 hDh hDlh hFh hp hs => ?_
    have F8 := (F.kp hK).add k8 hDh hDlh
    exact stS F8 fun s₉ F9 => hcont s₉ Dh yh kh ps' F9 hFh hp hs

set_option maxHeartbeats 4000000 in
theorem law_B3 {a : Addr} {cd : Value} (G : Gd mg mb s.heap) (R : Rm A) {sM : Shared} {Dh Dt : Addr} {yh yt : Array Value} {kh kt : Nat}
    (F : Sf s (lenv s.heap.objs.size a cd).locals m nw sM) (h1 : m "hues" = some (.ref Dh)) (h2 : m "turned" = some (.ref Dt)) (h3 : (Dh, lob yh kh) ∈ nw) (h4 : (Dt, lob yt kt) ∈ nw) (z1 : yh.size ≤ 100) (z2 : yt.size ≤ 100) {QQ : Flow → Shared → Prop}
    (hcont : ∀ s' Tn D1 D2 k1 k2, Sf s (lenv s.heap.objs.size a cd).locals (fun y => if y = "handed" then some (.ref Tn) else m y) ((Tn, tup2 (.ref D1) (.ref D2)) :: (D2, lob yt k2) :: (D1, lob yh k1) :: nw) s' → Dh ≠ D1 → Dt ≠ D2 →
      wpAny (model prog w) A (execs ((bdy (pst 11)).drop 6) (lenv s.heap.objs.size a cd)) QQ (fun _ _ => False) s') :
    wpAny (model prog w) A (execs ((bdy (pst 11)).drop 5) (lenv s.heap.objs.size a cd)) QQ (fun _ _ => False) sM := by
  refine wpAny_execs_cons (wpAny_Assign_Name (tup2S ?_))
  refine callB1 (bootS F G (v := .type "list") (by decide +kernel) ⟨.inr ⟨_, rfl⟩, ldS F h1 (copyL F ⟨_, F.get h3, rfl, kh, rfl⟩ (by omega) fun D1 s₂ k1 F2 hD1 kk2 => ?_)⟩)
  refine callB1 (bootS F2 G (v := .type "list") (by decide +kernel) ⟨.inr ⟨_, rfl⟩, ldS F2 h2 (copyL F2 ⟨_, F2.get (List.mem_cons_of_mem _ h4), rfl, kt, rfl⟩ (by omega) fun D2 s₃ k2 F3 hD2 kk3 => ?_)⟩)
  intro T s₄ k4 hT0 hT
  refine stS (F3.add k4 hT0 hT) fun s₅ F5 => hcont s₅ T D1 D2 k1 k2 F5 ?_ ?_
  · rintro rfl; rw [F.get h3] at hD1; cases hD1
  · rintro rfl; rw [F2.get (List.mem_cons_of_mem _ h4)] at hD2; cases hD2
end
end
end Mine

-- part L11C
namespace Mine
noncomputable section
section
variable {prog : Program} {w : World} {A : Around} {E : Value → Shared → Prop} {s s₀ s₁ : Shared} {Q : Value → Shared → Prop} {mg mb : Str → Option Value} {L : Addr} {m : Str → Option Value} {nw : List (Addr × Obj)} {env : Env}

set_option maxHeartbeats 4000000 in
theorem law_C {a : Addr} {cd : Value} (G : Gd mg mb s.heap) (R : Rm A) (hfr : A.frames = some [lenv s.heap.objs.size a cd]) {sM : Shared} {Dh Dt : Addr} {yh yt : Array Value} {kh kt : Nat} {ps qs : List Int}
    (F : Sf s (lenv s.heap.objs.size a cd).locals m nw sM) (h1 : m "hues" = some (.ref Dh)) (h2 : m "turned" = some (.ref Dt)) (h3 : (Dh, lob yh kh) ∈ nw) (h4 : (Dt, lob yt kt) ∈ nw)
    (hp : Flts ps yh) (hq : Flts qs yt) (pp : ∀ p ∈ ps, isPlace p = true) (pq : ∀ p ∈ qs, isPlace p = true) (z1 : ps.length ≤ 100) (z2 : qs.length ≤ 100) {QQ : Flow → Shared → Prop}
    (hcont : ∀ s' T Me Un ms us n1 n2, Sf s (lenv s.heap.objs.size a cd).locals (fun y => if y = "unexpected" then some (.ref Un) else if y = "missing" then some (.ref Me) else if y = "answer" then some (.ref T) else m y)
        ((Un, lob us n2) :: (Me, lob ms n1) :: (T, tup2 (.ref Me) (.ref Un)) :: nw) s' → Flts (merge ps qs).1 ms → Flts (merge ps qs).2 us →
      wpAny (model prog w) A (execs ((bdy (pst 11)).drop 8) (lenv s.heap.objs.size a cd)) QQ (fun _ _ => False) s') :
    wpAny (model prog w) A (execs ((bdy (pst 11)).drop 6) (lenv s.heap.objs.size a cd)) QQ (fun _ _ => False) sM := by
  have hL0 : s.heap.get? s.heap.objs.size = none := fresh_size _
  have hfs : [lenv s.heap.objs.size a cd].filterMap (·.frame) = [s.heap.objs.size] := rfl
  have nl : ∀ b o, s.heap.get? b = some o → b ∉ [lenv s.heap.objs.size a cd].filterMap (·.frame) := fun b o e q => by
    rw [hfs] at q
    have q' : b = s.heap.objs.size := by simpa using q
    rw [q', hL0] at e; cases e
  have hLM : ∃ o, sM.heap.get? s.heap.objs.size = some o := by obtain ⟨o, _, _, e, _⟩ := F.ns; exact ⟨o, e⟩
  obtain ⟨fa, hfa, hff⟩ := (F.gd G).is rec0
  refine wpAny_execs_cons (wpAny_Assign_Name (callE2 (globS (i := 1) F G hfa ⟨.fn hff, ldS F h1 (ldS F h2 ⟨Up.refl _, ?_⟩)⟩)))
  refine sld_call (outer := [lenv s.heap.objs.size a cd]) (F.gd G) (fun h' ho _ => G.up fun b o e => ho b o (nl b o e) (F.up b o e)) hff R.hh R.r0 hfr ⟨s.heap, F.up, .cons (by show ScopeKind.function ≠ .module; decide) rfl F.ns hL0 trivial⟩
    ⟨_, F.get h3, rfl, kh, rfl⟩ ⟨_, F.get h4, rfl, kt, rfl⟩ hp hq pp pq z1 z2 fun s₂ T Me Un ms us n1 n2 lx hT hMe hUn T0 M0 U0 g1 g2 => ?_
  rw [hfs] at lx
  have neL : ∀ {d}, sM.heap.get? d = none → d ≠ s.heap.objs.size := fun {d} hd q => by obtain ⟨o, e⟩ := hLM; rw [← q, hd] at e; cases e
  have F2 := (((F.lax lx).mk1 hT (F.fresh T0) (neL T0)).mk1 hMe (F.fresh M0) (neL M0)).mk1 hUn (F.fresh U0) (neL U0)
  refine stS F2 fun s₃ F3 => ?_
  refine wpAny_execs_cons (Assign_Tuple (ldS F3 (if_pos rfl) (assign_Tuple_tuple R.hh ⟨_, F3.get (a := T) (o := tup2 (.ref Me) (.ref Un)) (by simp [tup2]), rfl, 0, rfl⟩ rfl rfl fun h₄ he => ?_)))
  have F4 := F3.kp (s' := { s₃ with heap := h₄ }) ⟨h₄, _, rfl, fun b o e => he b o (Nat.ne_of_lt (Heap.lt_size e)) e⟩
  refine assignInOrder_cons (wpAny_assign_Name (stS F4 fun s₅ F5 => ?_))
  refine assignInOrder_cons (wpAny_assign_Name (stS F5 fun s₆ F6 => assignInOrder_nil ?_))
  exact hcont s₆ T Me Un ms us n1 n2 F6 g1 g2
end
end
end Mine

-- part L11D
namespace Mine
noncomputable section
section
variable {prog : Program} {w : World} {A : Around} {E : Value → Shared → Prop} {s s₀ s₁ : Shared} {Q : Value → Shared → Prop} {mg mb : Str → Option Value} {L : Addr} {m : Str → Option Value} {nw : List (Addr × Obj)} {env : Env}

theorem spot_at {ts : List (Addr × Obj)} {ns : List Int} {ys : Array Value} (h : Paired (SpotIn ts) ns ys.toList) {i : Nat} {v : Value} (hv : ys[i]? = some v) : ∃ n T t1 t2 t3, ns[i]? = some n ∧ v = .ref T ∧ (T, tup3 (.int (red n) t1) (.int (green n) t2) (.int (blue n) t3)) ∈ ts := by
  have hlt : i < ys.size := (Array.getElem?_eq_some_iff.mp hv).1
  have hsz : ys.size = ns.length := by simpa using h.length.symm
  have hlt' : i < ns.length := by omega
  obtain ⟨v', h1, T, o, rfl, h2, t1, t2, t3, rfl⟩ := Paired.at h (List.getElem?_eq_getElem hlt')
  rw [Array.getElem?_toList] at h1
  rw [hv] at h1; cases h1
  exact ⟨_, T, t1, t2, t3, List.getElem?_eq_getElem hlt', rfl, h2⟩

set_option maxHeartbeats 4000000 in
theorem law_D1 {a : Addr} {cd : Value} {ns : List Int} (G : Gd mg mb s.heap) (R : Rm A) {sM : Shared} {Df : Addr} {yf : Array Value} {kf : Nat} {ts1 : List (Addr × Obj)}
    (F : Sf s (lenv s.heap.objs.size a cd).locals m nw sM) (h1 : m "first" = some (.ref Df)) (h3 : (Df, lob yf kf) ∈ nw) (h5 : ∀ p ∈ ts1, p ∈ nw) (h7 : Paired (SpotIn ts1) (spotsOf (nums ns) 0) yf.toList) {QQ : Flow → Shared → Prop}
    (hcont : ∀ s' D ys k, Sf s (lenv s.heap.objs.size a cd).locals (fun y => if y = "places" then some (.ref D) else m y) ((D, lob ys k) :: nw) s' → Ints (placesOf ns) ys →
      wpAny (model prog w) A (execs ((bdy (pst 11)).drop 9) (lenv s.heap.objs.size a cd)) QQ (fun _ _ => False) s') :
    wpAny (model prog w) A (execs ((bdy (pst 11)).drop 8) (lenv s.heap.objs.size a cd)) QQ (fun _ _ => False) sM := by
  refine wpAny_execs_cons ?_
  refine compAssign (s₀ := s) (cl := []) ?_
  refine ldS F h1 ?_
  have hsz : yf.size = (spotsOf (nums ns) 0).length := by simpa using h7.length.symm
  have hz := spots_len (ns := ns) (k := 0)
  refine ⟨sM, _, _, fun _ => true, fun i v => ∃ n, (spotsOf (nums ns) 0)[i]? = some n ∧ IntP (place (red n) (green n) (blue n)) v, _, _, F, itersList R.hh ⟨_, F.get h3, rfl, kf, rfl⟩, by omega, ⟨?_, ?_⟩, ?_⟩
  · rintro C i s₆ m₃ E' hlt _ hn hK hC
    exact tests0 ⟨rfl, krefl _⟩
  · rintro C i s₆ m₃ E' hlt _ ⟨v, hv, hm⟩ hn hK hC
    obtain ⟨n, T, t1, t2, t3, hn', rfl, hT⟩ := spot_at h7 hv
    have p8 := part8 (spots_nonneg (List.mem_of_getElem? hn'))
    have G₆ := G.up (fun b o e => kup hK b o (F.up b o e))
    obtain ⟨fa, hfa, hff⟩ := G₆.is rec3
    refine callE1 (ldGlob G₆ hfa ⟨.fn hff, ldLoc hn hm ⟨Up.refl _, ?_⟩⟩)
    refine place_call G₆ hff R.hh R.r0 (Nat.lt_of_le_of_lt (Nat.add_le_add_left (by decide) _) R.u) (T := T) ⟨_, kup hK _ _ (F.get (h5 _ hT)), rfl, 0, rfl⟩ p8.1 p8.2.1 p8.2.2 fun s₇ t' k7 => ?_
    exact ⟨.inl ⟨n, hn', t', rfl⟩, k7⟩
  · intro D s' ys k F' hD hP
    exact hcont s' D ys k F' (paired_idx (f := fun n => place (red n) (green n) (blue n)) (xs := spotsOf (nums ns) 0) hsz hP)

set_option maxHeartbeats 4000000 in
theorem law_D2 {a : Addr} {cd : Value} {ns : List Int} (G : Gd mg mb s.heap) (R : Rm A) {sM : Shared} {Df : Addr} {yf : Array Value} {kf : Nat} {ts1 : List (Addr × Obj)}
    (F : Sf s (lenv s.heap.objs.size a cd).locals m nw sM) (h1 : m "second" = some (.ref Df)) (h3 : (Df, lob yf kf) ∈ nw) (h5 : ∀ p ∈ ts1, p ∈ nw) (h7 : Paired (SpotIn ts1) (spotsOf (nums ns) 1) yf.toList) {QQ : Flow → Shared → Prop}
    (hcont : ∀ s' D ys k, Sf s (lenv s.heap.objs.size a cd).locals (fun y => if y = "others" then some (.ref D) else m y) ((D, lob ys k) :: nw) s' → Ints (othersOf ns) ys →
      wpAny (model prog w) A (execs ((bdy (pst 11)).drop 10) (lenv s.heap.objs.size a cd)) QQ (fun _ _ => False) s') :
    wpAny (model prog w) A (execs ((bdy (pst 11)).drop 9) (lenv s.heap.objs.size a cd)) QQ (fun _ _ => False) sM := by
  refine wpAny_execs_cons ?_
  refine compAssign (s₀ := s) (cl := []) ?_
  refine ldS F h1 ?_
  have hsz : yf.size = (spotsOf (nums ns) 1).length := by simpa using h7.length.symm
  have hz := spots_len (ns := ns) (k := 1)
  refine ⟨sM, _, _, fun _ => true, fun i v => ∃ n, (spotsOf (nums ns) 1)[i]? = some n ∧ IntP (turned (red n) (green n) (blue n)) v, _, _, F, itersList R.hh ⟨_, F.get h3, rfl, kf, rfl⟩, by omega, ⟨?_, ?_⟩, ?_⟩
  · rintro C i s₆ m₃ E' hlt _ hn hK hC
    exact tests0 ⟨rfl, krefl _⟩
  · rintro C i s₆ m₃ E' hlt _ ⟨v, hv, hm⟩ hn hK hC
    obtain ⟨n, T, t1, t2, t3, hn', rfl, hT⟩ := spot_at h7 hv
    have p8 := part8 (spots_nonneg (List.mem_of_getElem? hn'))
    have G₆ := G.up (fun b o e => kup hK b o (F.up b o e))
    obtain ⟨fa, hfa, hff⟩ := G₆.is rec5
    refine callE1 (ldGlob G₆ hfa ⟨.fn hff, ldLoc hn hm ⟨Up.refl _, ?_⟩⟩)
    refine turned_call G₆ hff R.hh R.r1 R.u (T := T) ⟨_, kup hK _ _ (F.get (h5 _ hT)), rfl, 0, rfl⟩ p8.1 p8.2.1 p8.2.2 fun s₇ t' k7 => ?_
    exact ⟨.inl ⟨n, hn', t', rfl⟩, k7⟩
  · intro D s' ys k F' hD hP
    exact hcont s' D ys k F' (paired_idx (f := fun n => turned (red n) (green n) (blue n)) (xs := spotsOf (nums ns) 1) hsz hP)

set_option maxHeartbeats 4000000 in
theorem law_D3 {a : Addr} {cd : Value} {qs ps : List Int} (G : Gd mg mb s.heap) (R : Rm A) {sM : Shared} {Dp Do : Addr} {yp yo : Array Value} {kp ko : Nat}
    (F : Sf s (lenv s.heap.objs.size a cd).locals m nw sM) (h1 : m "places" = some (.ref Dp)) (h2 : m "others" = some (.ref Do)) (h3 : (Dp, lob yp kp) ∈ nw) (h4 : (Do, lob yo ko) ∈ nw) (hp : Ints ps yp) (hq : Ints qs yo) (z1 : ps.length ≤ 20) (z2 : qs.length ≤ 20) {QQ : Flow → Shared → Prop}
    (hcont : ∀ s' T D1 D2 y1 y2 k1 k2 n1 n2, Sf s (lenv s.heap.objs.size a cd).locals (fun y => if y = "due" then some (.ref T) else m y) ((T, tup2 (.ref D1) (.ref D2)) :: (D2, lob y2 k2) :: (D1, lob y1 k1) :: nw) s' → AloneIs ps qs n1 → AloneIs qs ps n2 → Ints (n1.map (1024 * ·)) y1 → Ints (n2.map (1024 * ·)) y2 →
      wpAny (model prog w) A (execs ((bdy (pst 11)).drop 11) (lenv s.heap.objs.size a cd)) QQ (fun _ _ => False) s') :
    wpAny (model prog w) A (execs ((bdy (pst 11)).drop 10) (lenv s.heap.objs.size a cd)) QQ (fun _ _ => False) sM := by
  have big : ∀ {ps qs n1 : List Int}, AloneIs ps qs n1 → ps.length ≤ 20 → n1.length ≤ 40 := by
    rintro ps qs n1 ⟨o1, o2, rfl, p1, _, p2, _⟩ hz
    have e1 := p1.length_eq
    have e2 := p2.length_eq
    have e3 := List.length_filter_le (fun p => decide (topOf qs < p)) ps
    have e4 : (onceOf ps qs).length ≤ ps.length := by
      unfold onceOf; rw [List.length_map]
      have := List.length_filter_le (onceP ps qs) (List.range ps.length)
      simpa using this
    simp; omega
  refine wpAny_execs_cons ?_
  refine wpAny_Assign_Name ?_
  refine tup2S ?_
  refine compEval (cl := []) ?_
  obtain ⟨fa, hfa, hff⟩ := (F.gd G).is rec6
  refine callE2 (globS (i := 9) F G hfa ⟨.fn hff, ldS F h1 (ldS F h2 ⟨Up.refl _, ?_⟩)⟩)
  refine alone_call (F.gd G) hff R.hh R.r0 (F.get h3) ⟨_, F.get h4, rfl, ko, rfl⟩ hp hq z1 z2 fun s₂ Da ya ka n1 k2 hDa hDla hIa hA => ?_
  have F2 := F.kp k2
  have sza := hIa.size
  have b1 := big hA z1
  refine ⟨s₂, _, _, fun _ => true, fun i v => ∃ n, n1[i]? = some n ∧ IntP (1024 * n) v, fun _ _ => False, itersList R.hh ⟨_, hDla, rfl, ka, rfl⟩, by omega, ⟨?_, ?_⟩, ?_⟩
  · rintro C i s₆ m₃ E' hlt _ hn hK hC
    exact tests0 ⟨rfl, krefl _⟩
  · rintro C i s₆ m₃ E' hlt _ ⟨v, hv, hm⟩ hn hK hC
    obtain ⟨n, t, hn', rfl⟩ := hIa.at hv
    refine wpAny_BinOp (wpAny_Constant_int (ldLoc (by exact hn) hm (mul_int ?_ (.of_left (by decide +kernel)))))
    exact ⟨.inl ⟨n, hn', _, rfl⟩, ⟨_, _, rfl, fun _ _ e => e⟩⟩
  intro D1 s₃ y1 k1 kk3 hD1 hDl1 hP1
  have hI1 : Ints (n1.map (1024 * ·)) y1 := paired_idx (f := (1024 * ·)) (xs := n1) sza (hP1.mono fun i y z => by
    rcases z with z | ⟨_, _, _, _, _, z⟩
    · exact z
    · exact z.elim)
  have F3 := F2.add kk3 hD1 hDl1
  refine compEval (cl := []) ?_
  obtain ⟨fa, hfa, hff⟩ := (F3.gd G).is rec6
  refine callE2 (globS (i := 9) F3 G hfa ⟨.fn hff, ldS F3 h2 (ldS F3 h1 ⟨Up.refl _, ?_⟩)⟩)
  refine alone_call (F3.gd G) hff R.hh R.r0 (F3.get (List.mem_cons_of_mem _ h4)) ⟨_, F3.get (List.mem_cons_of_mem _ h3), rfl, kp, rfl⟩ hq hp z2 z1 fun s₄ Db yb kb n2 k4 hDb hDlb hIb hB => ?_
  have F4 := F3.kp k4
  have szb := hIb.size
  have b2 := big hB z2
  refine ⟨s₄, _, _, fun _ => true, fun i v => ∃ n, n2[i]? = some n ∧ IntP (1024 * n) v, fun _ _ => False, itersList R.hh ⟨_, hDlb, rfl, kb, rfl⟩, by omega, ⟨?_, ?_⟩, ?_⟩
  · rintro C i s₆ m₃ E' hlt _ hn hK hC
    exact tests0 ⟨rfl, krefl _⟩
  · rintro C i s₆ m₃ E' hlt _ ⟨v, hv, hm⟩ hn hK hC
    obtain ⟨n, t, hn', rfl⟩ := hIb.at hv
    refine wpAny_BinOp (wpAny_Constant_int (ldLoc (by exact hn) hm (mul_int ?_ (.of_left (by decide +kernel)))))
    exact ⟨.inl ⟨n, hn', _, rfl⟩, ⟨_, _, rfl, fun _ _ e => e⟩⟩
  intro D2 s₅ y2 k2' kk5 hD2 hDl2 hP2
  have hI2 : Ints (n2.map (1024 * ·)) y2 := paired_idx (f := (1024 * ·)) (xs := n2) szb (hP2.mono fun i y z => by
    rcases z with z | ⟨_, _, _, _, _, z⟩
    · exact z
    · exact z.elim)
  have F5 := F4.add kk5 hD2 hDl2
  intro T s₆ k6 hT0 hT
  refine stS (F5.add k6 hT0 hT) fun s₇ F7 => hcont s₇ T D1 D2 y1 y2 k1 k2' n1 n2 F7 hA hB hI1 hI2
end
end
end Mine

-- part L11E
namespace Mine
noncomputable section
section
variable {prog : Program} {w : World} {A : Around} {E : Value → Shared → Prop} {s s₀ s₁ : Shared} {Q : Value → Shared → Prop} {mg mb : Str → Option Value} {L : Addr} {m : Str → Option Value} {nw : List (Addr × Obj)} {env : Env}

theorem eqSame {l b : Addr} {items : Array Value} (hne : l ≠ b) (hl : s.heap.IsList l items) (hb : s.heap.IsList b items) (hu : A.units < cLine) : PySem.SeqAt.EqAt A s (.ref l) (.ref b) true := by
  have := PySem.SeqAt.EqAt.of_refs hne (PySem.SeqAt.RcAt.lists (A := A) (e := fun _ => true) hl hb rfl hu (fun j h1 h2 => PySem.SeqAt.EqAt.same _))
  rwa [show ((List.range items.size).all fun _ => true) = true by simp] at this
theorem eqInts {l b : Addr} {items items2 : Array Value} {ns : List Int} (hne : l ≠ b) (hl : s.heap.IsList l items) (hb : s.heap.IsList b items2) (hi : Ints ns items) (hj : Ints ns items2) (hu : A.units < cLine) : PySem.SeqAt.EqAt A s (.ref l) (.ref b) true := by
  have z1 := hi.size
  have z2 := hj.size
  have := PySem.SeqAt.EqAt.of_refs hne (PySem.SeqAt.RcAt.lists (A := A) (e := fun _ => true) hl hb (by omega) hu (fun j h1 h2 => by
    obtain ⟨n, t, hn, e⟩ := hj.at (Array.getElem?_eq_getElem h2)
    rw [e]
    have ha := ints_are hi
    have hm : items[j] ∈ items.toList := by simp
    have g := (eq_isInt n t ha items[j] hm).at A.in1 s
    have hj' : j < ns.length := by omega
    have e2 := isInt_at n ha j (by simpa using h1) hj'
    rw [Array.getElem_toList] at e2
    have e3 : ns[j] = n := by rw [List.getElem?_eq_getElem hj'] at hn; exact Option.some.inj hn
    rw [e2, e3] at g
    simpa using g))
  rwa [show ((List.range items.size).all fun _ => true) = true by simp] at this
theorem eqTup {T U : Addr} {a b c d : Value} (hT : s.heap.get? T = some (tup2 a b)) (hU : s.heap.get? U = some (tup2 c d)) (hu : A.units < cLine) (h1 : PySem.SeqAt.EqAt A.in1 s a c true) (h2 : PySem.SeqAt.EqAt A.in1 s b d true) (h : Q (.bool true) s) :
    wpAny (model prog w) A (compareOp .Eq (.ref T) (.ref U)) Q E s := by
  refine PySem.SeqAt.eq_tupleAt (items := #[a, b]) (items2 := #[c, d]) (e := fun _ => true) ⟨_, hT, rfl, 0, rfl⟩ ⟨_, hU, rfl, 0, rfl⟩ hu (fun j g1 g2 => ?_) h
  match j, g1 with
  | 0, _ => exact h1
  | 1, _ => exact h2

set_option maxHeartbeats 4000000 in
theorem law_E {a : Addr} {cd : Value} (G : Gd mg mb s.heap) (R : Rm A) {sM : Shared} {Dh Dt Tn D1 D2 T Me Un Td E1 E2 : Addr} {yh yt ms us z1 z2 : Array Value} {kh kt k1 k2 n1 n2 l1 l2 : Nat} {ps qs : List Int}
    (F : Sf s (lenv s.heap.objs.size a cd).locals m nw sM) (m1 : m "hues" = some (.ref Dh)) (m2 : m "turned" = some (.ref Dt)) (m3 : m "handed" = some (.ref Tn)) (m4 : m "answer" = some (.ref T)) (m5 : m "missing" = some (.ref Me)) (m6 : m "unexpected" = some (.ref Un)) (m7 : m "due" = some (.ref Td))
    (g1 : (Dh, lob yh kh) ∈ nw) (g2 : (Dt, lob yt kt) ∈ nw) (g3 : (Tn, tup2 (.ref D1) (.ref D2)) ∈ nw) (g4 : (D1, lob yh k1) ∈ nw) (g5 : (D2, lob yt k2) ∈ nw) (g6 : (T, tup2 (.ref Me) (.ref Un)) ∈ nw) (g7 : (Me, lob ms n1) ∈ nw) (g8 : (Un, lob us n2) ∈ nw)
    (g9 : (Td, tup2 (.ref E1) (.ref E2)) ∈ nw) (g10 : (E1, lob z1 l1) ∈ nw) (g11 : (E2, lob z2 l2) ∈ nw) (ne1 : Dh ≠ D1) (ne2 : Dt ≠ D2)
    (f1 : Flts ps ms) (f2 : Flts qs us) (pp : ∀ p ∈ ps, isPlace p = true) (pq : ∀ p ∈ qs, isPlace p = true) (i1 : Ints (ps.map (1024 * ·)) z1) (i2 : Ints (qs.map (1024 * ·)) z2) (q1 : ps.length ≤ 100) (q2 : qs.length ≤ 100) :
    wpAny (model prog w) A (execs ((bdy (pst 11)).drop 11) (lenv s.heap.objs.size a cd)) (fun f s' => f = .ret (.bool true) ∧ ∃ m nw, Sf s s.heap.objs.size m nw s') (fun _ _ => False) sM := by
  have u1 : A.in1.units < cLine := by show A.units + 1 < cLine; have := R.u; omega
  have u0 : A.units < cLine := by have := R.u; omega
  refine wpAny_execs_cons ?_
  refine wpAny_Return_some ?_
  refine BoolOp_and ?_
  refine wpAny_Compare1 ?_
  refine tup2S (ldS F m1 (ldS F m2 fun T1 s₂ k2' hT0 hT1 => ?_))
  have F2 := F.kp k2'
  refine ldS F2 m3 ?_
  refine eqTup (a := .ref Dh) (b := .ref Dt) hT1 (F2.get g3) u0 (eqSame ne1 ⟨_, F2.get g1, rfl, kh, rfl⟩ ⟨_, F2.get g4, rfl, k1, rfl⟩ u1) (eqSame ne2 ⟨_, F2.get g2, rfl, kt, rfl⟩ ⟨_, F2.get g5, rfl, k2, rfl⟩ u1) ?_
  refine wpAny_truthy_bool ?_
  rw [if_pos rfl]
  refine BoolOp_and ?_
  refine wpAny_Compare1 ?_
  refine ldS F2 m4 ?_
  refine tup2S (ldS F2 m5 (ldS F2 m6 fun T2 s₃ k3' hT20 hT2 => ?_))
  have F3 := F2.kp k3'
  refine eqTup (c := .ref Me) (d := .ref Un) (F3.get g6) hT2 u0 (PySem.SeqAt.EqAt.same _) (PySem.SeqAt.EqAt.same _) ?_
  refine wpAny_truthy_bool ?_
  rw [if_pos rfl]
  refine BoolOp_one ?_
  refine wpAny_Compare1 ?_
  refine tup2S ?_
  obtain ⟨fa, hfa, hff⟩ := (F3.gd G).is rec7
  refine callE1 (globS (i := 10) F3 G hfa ⟨.fn hff, ldS F3 m5 ⟨Up.refl _, ?_⟩⟩)
  refine read_call (F3.gd G) hff R.hh R.r0 ⟨_, F3.get g7, rfl, n1, rfl⟩ f1 pp q1 fun s₄ R1 y1 r1 k4 hR1 hRl1 hI1 => ?_
  have F4 := F3.add k4 hR1 hRl1
  obtain ⟨fa, hfa, hff⟩ := (F4.gd G).is rec7
  refine callE1 (globS (i := 10) F4 G hfa ⟨.fn hff, ldS F4 m6 ⟨Up.refl _, ?_⟩⟩)
  refine read_call (F4.gd G) hff R.hh R.r0 ⟨_, F4.get (List.mem_cons_of_mem _ g8), rfl, n2, rfl⟩ f2 pq q2 fun s₅ R2 y2 r2 k5 hR2 hRl2 hI2 => ?_
  have F5 := F4.add k5 hR2 hRl2
  intro T3 s₆ k6 hT30 hT3
  have F6 := F5.kp k6
  refine ldS F6 m7 ?_
  have e1 : R1 ≠ E1 := by rintro rfl; rw [F3.get g10] at hR1; cases hR1
  have e2 : R2 ≠ E2 := by rintro rfl; rw [F4.get (List.mem_cons_of_mem _ g11)] at hR2; cases hR2
  refine eqTup (a := .ref R1) (b := .ref R2) hT3 (F6.get (List.mem_cons_of_mem _ (List.mem_cons_of_mem _ g9))) u0
    (eqInts e1 ⟨_, F6.get (List.mem_cons_of_mem _ List.mem_cons_self), rfl, r1, rfl⟩ ⟨_, F6.get (List.mem_cons_of_mem _ (List.mem_cons_of_mem _ g10)), rfl, l1, rfl⟩ hI1 i1 u1)
    (eqInts e2 ⟨_, F6.get List.mem_cons_self, rfl, r2, rfl⟩ ⟨_, F6.get (List.mem_cons_of_mem _ (List.mem_cons_of_mem _ g11)), rfl, l2, rfl⟩ hI2 i2 u1) ?_
  exact ⟨rfl, _, _, F6⟩
end
end
end Mine

-- part L11F
namespace Mine
noncomputable section
section
variable {prog : Program} {w : World} {A : Around} {s s₁ : Shared} {mg mb : Str → Option Value}

set_option maxHeartbeats 4000000 in
theorem law_all {sc a : Addr} {cd : Value} {vs : List Value} {ns : List Int} (G : Gd mg mb s.heap) (R : Rm A) (hfr : A.frames = some [lenv s.heap.objs.size a cd])
    (hL : s.heap.IsList sc vs.toArray) (hI : IntsAre vs ns) (hlen : ns.length ≤ 63)
    (F : Sf s s.heap.objs.size (fun x => List.lookup x [(("script" : Str), Value.ref sc)].reverse) [] s₁) :
    wpAny (model prog w) A (execs (bdy (pst 11)) (lenv s.heap.objs.size a cd)) (fun f s' => f = .ret (.bool true) ∧ ∃ m nw, Sf s s.heap.objs.size m nw s') (fun _ _ => False) s₁ := by
  refine @law_A prog w A s s₁ mg mb sc a cd vs ns G R hL hI hlen F _ ?_
  intro s₂ m nw Df Ds yf ys kf ks ts1 ts2 F mf ms hf hs ht1 ht2 hPf hPs
  refine law_B1 G R F mf hf ht1 hPf fun s₃ Dh yh kh ps' F3 fl1 hp1 hs1 => ?_
  refine law_B2 G R F3 ((if_neg (by decide)).trans ms) (List.mem_cons_of_mem _ hs) (fun p hp => List.mem_cons_of_mem _ (ht2 p hp)) hPs fun s₄ Dt yt kt qs' F4 fl2 hp2 hs2 => ?_
  have lp := places_len (ns := ns)
  have lo := others_len (ns := ns)
  have e1 := hp1.length_eq
  have e2 := hp2.length_eq
  have y1 := fl1.size
  have y2 := fl2.size
  refine law_B3 G R F4 ((if_neg (by decide)).trans (if_pos rfl)) (if_pos rfl) (List.mem_cons_of_mem _ List.mem_cons_self) List.mem_cons_self (by omega) (by omega) fun s₅ Tn D1 D2 k1 k2 F5 ne1 ne2 => ?_
  have pp : ∀ p ∈ ps', isPlace p = true := fun p hp => places_place p (hp1.mem_iff.mp hp)
  have pq : ∀ p ∈ qs', isPlace p = true := fun p hp => others_place p (hp2.mem_iff.mp hp)
  refine law_C G R hfr F5 (Dh := Dh) (Dt := Dt) ((if_neg (by decide)).trans ((if_neg (by decide)).trans (if_pos rfl))) ((if_neg (by decide)).trans (if_pos rfl)) (kh := kh) (yh := yh) (kt := kt) (yt := yt) (by simp) (by simp) fl1 fl2 pp pq (by omega) (by omega) fun s₆ T Me Un ms' us' n1 n2 F6 g1 g2 => ?_
  refine law_D1 G R F6 (Df := Df) (yf := yf) (kf := kf) (ts1 := ts1) (by
      refine (if_neg (by decide)).trans ((if_neg (by decide)).trans ((if_neg (by decide)).trans ((if_neg (by decide)).trans ((if_neg (by decide)).trans ((if_neg (by decide)).trans mf)))))) (by simp [hf]) (fun p hp => by simp [ht1 p hp]) hPf fun s₇ Dp yp kp F7 ip => ?_
  refine law_D2 G R F7 (Df := Ds) (yf := ys) (kf := ks) (ts1 := ts2) (by
      refine (if_neg (by decide)).trans ((if_neg (by decide)).trans ((if_neg (by decide)).trans ((if_neg (by decide)).trans ((if_neg (by decide)).trans ((if_neg (by decide)).trans ((if_neg (by decide)).trans ms))))))) (by simp [hs]) (fun p hp => by simp [ht2 p hp]) hPs fun s₈ Do yo ko F8 io => ?_
  refine law_D3 G R F8 (Dp := Dp) (Do := Do) ((if_neg (by decide)).trans (if_pos rfl)) (if_pos rfl) (kp := kp) (yp := yp) (ko := ko) (yo := yo) (by simp) (by simp) ip io (by omega) (by omega) fun s₉ Td E1 E2 z1 z2 l1 l2 o1 o2 F9 a1 a2 i1 i2 => ?_
  have p0 : ∀ a ∈ placesOf ns, 0 ≤ a := fun a ha => place_nonneg (places_place a ha)
  have q0 : ∀ a ∈ othersOf ns, 0 ≤ a := fun a ha => place_nonneg (others_place a ha)
  obtain rfl := merge_alone hp1 hp2 hs1 hs2 p0 q0 a1
  obtain rfl := merge_alone2 hp1 hp2 hs1 hs2 p0 q0 a2
  have sub := merge_sub ps' qs'
  have s1 := sub.1.length_le
  have s2 := sub.2.length_le
  refine law_E G R F9 (Dh := Dh) (Dt := Dt) (Tn := Tn) (D1 := D1) (D2 := D2) (T := T) (Me := Me) (Un := Un) (Td := Td) (E1 := E1) (E2 := E2) (yh := yh) (yt := yt) (ms := ms') (us := us') (z1 := z1) (z2 := z2) (kh := kh) (kt := kt) (k1 := k1) (k2 := k2) (n1 := n1) (n2 := n2) (l1 := l1) (l2 := l2)
    ?_ ?_ ?_ ?_ ?_ ?_ (if_pos rfl) (by simp) (by simp) (by simp) (by simp) (by simp) (by simp) (by simp) (by simp) (by simp) (by simp) (by simp) ne1 ne2 g1 g2 (fun p hp => pp p (sub.1.subset hp)) (fun p hp => pq p (sub.2.subset hp)) i1 i2 (by omega) (by omega)
  · exact (if_neg (by decide)).trans ((if_neg (by decide)).trans ((if_neg (by decide)).trans ((if_neg (by decide)).trans ((if_neg (by decide)).trans ((if_neg (by decide)).trans ((if_neg (by decide)).trans ((if_neg (by decide)).trans (if_pos rfl))))))))
  · exact (if_neg (by decide)).trans ((if_neg (by decide)).trans ((if_neg (by decide)).trans ((if_neg (by decide)).trans ((if_neg (by decide)).trans ((if_neg (by decide)).trans ((if_neg (by decide)).trans (if_pos rfl)))))))
  · exact (if_neg (by decide)).trans ((if_neg (by decide)).trans ((if_neg (by decide)).trans ((if_neg (by decide)).trans ((if_neg (by decide)).trans ((if_neg (by decide)).trans (if_pos rfl))))))
  · exact (if_neg (by decide)).trans ((if_neg (by decide)).trans ((if_neg (by decide)).trans ((if_neg (by decide)).trans ((if_neg (by decide)).trans (if_pos rfl)))))
  · exact (if_neg (by decide)).trans ((if_neg (by decide)).trans ((if_neg (by decide)).trans ((if_neg (by decide)).trans (if_pos rfl))))
  · exact (if_neg (by decide)).trans ((if_neg (by decide)).trans ((if_neg (by decide)).trans (if_pos rfl)))
end
end
end Mine

-- part T1
namespace Mine
noncomputable section
section
variable {prog : Program} {w : World} {A : Around} {s s₁ : Shared} {mg mb : Str → Option Value}
theorem caller_room {env : Env} : Rm (callerA.deeper env) := Rm.of rfl (by decide : 301 + 10 < 1000) (by decide : 4 + 300 < 9900)
theorem caller_frames {env : Env} : (callerA.deeper env).frames = some [env] := rfl

theorem top_gen {M : Model} {A : Around} {bo : List Stmt} {env : Env} {L : Addr} {Q : Flow → Shared → Prop} {E : Value → Shared → Prop}
    (hw : wpAny M A (execs bo env) (fun f s' => f = .ret (.bool true) ∧ ∃ m nw, Sf s L m nw s') (fun _ _ => False) s₁)
    (hQ : ∀ m h' tk, Fr s.heap L h' m → Q (.ret (.bool true)) { s with heap := h', toks := tk }) : wpAny M A (execs bo env) Q E s₁ := by
  refine wpAny_mono hw (fun f s' h => ?_) (fun _ _ x => x.elim)
  obtain ⟨rfl, m, nw, F'⟩ := h
  obtain ⟨h', tk, rfl⟩ := F'.sm
  exact hQ m h' tk F'.fr
theorem len63 {ns : List Int} (hlen : ¬ ((63 : Nat) : Int) < (ns.length : Int)) : ns.length ≤ 63 := by omega
theorem sf_top {x0 : Str} {sc L : Addr} {h₁ : Heap} {tk : Nat} (hx0 : x0 = "script") (F : Fr s.heap L h₁ (fun x => List.lookup x [(x0, Value.ref sc)].reverse)) :
    Sf s L (fun x => List.lookup x [(("script" : Str), Value.ref sc)].reverse) [] { s with heap := h₁, toks := tk } := by
  rw [hx0] at F
  exact ⟨⟨_, _, rfl⟩, F, News.nil⟩
theorem env_eq {nm : Str} {so : Scope} {L a : Addr} {cd : Value} (e1 : nam (pst 11) = nm) (e2 : scp (pst 11) = so) : lenv L a cd = envOf nm so L a cd := by
  subst e1; subst e2; rfl
theorem law_top {nm : Str} {so : Scope} {bo : List Stmt} (e1 : nam (pst 11) = nm) (e2 : scp (pst 11) = so) (e3 : bdy (pst 11) = bo) {sc a : Addr} {cd : Value} {vs : List Value} {ns : List Int} {h₁ : Heap} {tk₁ : Nat} {Q : Flow → Shared → Prop} {E : Value → Shared → Prop} (G : Gd mg mb s.heap)
    (hL : s.heap.IsList sc vs.toArray) (hI : IntsAre vs ns) (hlen : ¬ ((63 : Nat) : Int) < (ns.length : Int)) {x0 : Str} (hx0 : x0 = "script")
    (F : Fr s.heap s.heap.objs.size h₁ (fun x => List.lookup x [(x0, Value.ref sc)].reverse))
    (hQ : ∀ m h' tk, Fr s.heap s.heap.objs.size h' m → Q (.ret (.bool true)) { s with heap := h', toks := tk }) :
    wpAny (model prog w) (callerA.deeper (envOf nm so s.heap.objs.size a cd)) (execs bo (envOf nm so s.heap.objs.size a cd)) Q E { s with heap := h₁, toks := tk₁ } := by
  have hw := @law_all prog w (callerA.deeper (lenv s.heap.objs.size a cd)) s { s with heap := h₁, toks := tk₁ } mg mb sc a cd vs ns G caller_room caller_frames hL hI (len63 hlen) (sf_top hx0 F)
  rw [env_eq e1 e2, e3] at hw
  exact top_gen hw hQ
end
end
end Mine
set_option maxRecDepth 100000 in
set_option maxHeartbeats 400000 in
theorem PySem.Challenge.cw_mj0101_01_holds : PySem.Challenge.rw_mj0101_01.Holds := by
  refine Mine.hd ?_
  k_go0
  rename_i T B TE TW w9 w8 M w7 w6 hcd ns hs hlay0 hL1 hr1 hl2 w4 w3 sc vs w0 hL ra w1 r0 hI hr hcond1 hcond K0 hD h₁ F N0
  clear B TE TW M hcd hs hlay0 hL1 hr1 hl2 ra w1 r0 hr hcond K0 hD
  refine' Mine.law_top ?e1 ?e2 ?e3 ?G ?hL ?hI ?hcond1 ?hx ?F ?hQ
  case F => exact F
  case G => exact Mine.Gd.of_top T
  case hL => exact hL
  case hI => exact hI
  case hcond1 => exact hcond1
  case hx => rfl
  case e1 => kernel_rfl
  case e2 => kernel_rfl
  case e3 => kernel_rfl
  clear T hL hI hcond1 F N0
  intro m h' tk F'
  refine goodW_bool F' (by assumption) (raisesW_false ?_) ?_
  · wrow_none_raised
  · kc_post
