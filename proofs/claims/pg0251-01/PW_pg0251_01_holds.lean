import PyProof.Rows.All
import Wide.All
import OpenK.AllK
import Wide.FinOn
import Flt.RightMore
import Flt.Lists
import KE.KPairComp
import KE.RegLcTurns
import PySem.Challenge.RW_pg0251_01
set_option Elab.async false
set_option linter.unusedVariables false
section
open PySem PySem.W PyProof.Rows
set_option maxRecDepth 100000
set_option maxHeartbeats 8000000
namespace Mine
local macro_rules | `(tactic| o_law) => `(tactic| refine holds_law (by decide +kernel) fun said => ?_)
open_top hd for PySem.Challenge.rw_pg0251_01
end Mine
end
section
open PySem PySem.W PyProof.Rows
noncomputable section
namespace Mine
@[reducible] noncomputable def VW := Mine.hd.view_1
@[reducible] noncomputable def LO := looseW VW [Str.ofString "_name_disallowed_re", Str.ofString "_value_disallowed_re"]

/-- what a call has made: there now, not there before -/
noncomputable def NewIn (h h' : Heap) (tl : List (Addr × Obj)) : Prop := ∀ p ∈ tl, h'.get? p.1 = some p.2 ∧ h.get? p.1 = none
noncomputable def Kept (h h' : Heap) : Prop := ∀ b o, h.get? b = some o → h'.get? b = some o
/-- all of h but the addresses of sub -/
noncomputable def AllBut (sub : List (Addr × Obj)) (h g : Heap) : Prop := ∀ b o, h.get? b = some o → (∀ p ∈ sub, p.1 ≠ b) → g.get? b = some o

section
variable {prog : Program} {w : World} {A₀ A : Around} {s : Shared} {base h₀ : Heap} {outer : List Env} {L : Addr} {m mg mb : Str → Option Value} {env : Env} {sub : List (Addr × Obj)} {K : Frag} {p : Program} {loose : List Str} {mean : ExcName → Option Value}
  {R : Result → Shared → Prop} {name qual : Str} {params : Arguments} {body : List Stmt} {scope : Scope} {dV kV doc pm cdv ct oc : Value} {an od : Option Addr} {osl : Array (Option Value)} {f : Addr} {args : Args} {binds : List (Str × Value)}
theorem code_tell
    (B : Below A₀ base outer h₀) (F : Fr h₀ L s.heap m) (X₀ : K.In h₀) (N : News h₀ L s.heap sub) (T : Top p loose mean mg mb h₀) (hA : A.frames = some (env :: outer)) (hf : env.frame = some L) (hke : env.scope.kind = .function)
    (ho : K.lookup f = some ⟨oc, od, .func (fnOf name qual params body scope dV kV doc pm an cdv ct), osl⟩) (hcd : codeIn K cdv qual = true) (hroom : A.depth < recursionLimit)
    (hbind : BindsTo s (fnOf name qual params body scope dV kV doc pm an cdv ct) args binds) (hloc : ∀ y ∈ binds, scope.names.lookup y.1 = some .local)
    (h : ∀ g L' h₁, AllBut sub s.heap g → Fr h₀ L g m → Fr g L' h₁ (fun y => binds.reverse.lookup y) → News g L' h₁ sub → Below A base (env :: outer) g → K.In g → Top p loose mean mg mb g → (∀ q ∈ sub, q.1 < L') →
      wpAny (model prog w) (A.deeper (envOf qual scope L' f cdv)) (execs body (envOf qual scope L' f cdv))
        (fun fl s' => LeaveK h₀ L m g R (match fl with | .ret v => v | _ => .none) s')
        (fun e s' => wpAny (model prog w) (A.deeper (envOf qual scope L' f cdv)) (leaving (envOf qual scope L' f cdv) e) (fun _ s'' => R (.error e) s'') (fun e' s'' => R (.error e') s'') s')
        { s with heap := h₁, toks := s.toks + binds.length })
    (hco : scope.isCoroutine = false) (hgen : scope.isGenerator = false) (hk : scope.kind = .function)
    (hcell : ∀ x ∈ scope.names, x.2 ≠ .cell) : codeAny (model prog w) A (.call (.ref f) args) R s := by
  obtain ⟨FG, BG, st, lv⟩ := groundX (R := R) B F N hA hf hke
  have hX : K.In s.heap := X₀.keeps F.keep
  refine codeAny_call_def (fd := fnOf name qual params body scope dV kV doc pm an cdv ct) (body := body) (binds := binds) hroom (hX _ _ ho) rfl (T.nolimit.keeps F.keep) (codeRec_of hX hcd) rfl hbind hcell hloc (fun h₁ hns hk₁ => ?_) hco hgen hk
  refine wpAny_mono (h _ s.heap.objs.size h₁ (fun b o e hb => hideAll_get _ e fun hm => ?_) FG ⟨hns, fun b o e => hk₁ b o (of_hideAll _ e), Nat.le_of_eq (hideAll_size _ _)⟩
    (fun q hq => ⟨hk₁ _ _ (N q hq).1, Nat.ne_of_lt (Heap.lt_size (N q hq).1), hideAll_none _ (List.mem_map_of_mem hq)⟩) BG (X₀.keeps st) (T.keeps st) (fun q hq => Heap.lt_size (N q hq).1)) (fun fl s' hl => lv _ _ hl) fun _ _ y => y
  obtain ⟨q, hq, e'⟩ := List.mem_map.mp hm
  exact hb q hq e'

/-- a call's end, read by the caller -/
theorem tell_end {g h h' : Heap} {L' : Addr} {m' : Str → Option Value} {all : List (Addr × Obj)} (hg : AllBut sub h g) (F : Fr g L' h' m') (N : News g L' h' all) (hN : ∀ q ∈ sub, h.get? q.1 = some q.2) (hs : ∀ q ∈ sub, q ∈ all)
    (tl : List (Addr × Obj)) (ht : ∀ q ∈ tl, q ∈ all) (hne : ∀ q ∈ tl, ∀ r ∈ sub, q.1 ≠ r.1) : Kept h h' ∧ NewIn h h' tl := by
  refine ⟨fun b o e => ?_, fun q hq => ⟨(N q (ht q hq)).1, ?_⟩⟩
  · by_cases hb : ∃ q ∈ sub, q.1 = b
    · obtain ⟨q, hq, rfl⟩ := hb
      have := hN q hq
      rw [e] at this
      rw [Option.some.inj this]
      exact (N q (hs q hq)).1
    · exact F.keep b o (hg b o e fun q hq e' => hb ⟨q, hq, e'⟩)
  · cases e : h.get? q.1 with
    | none => rfl
    | some o =>
      have := hg q.1 o e fun r hr e' => hne q hq r hr e'.symm
      rw [(N q (ht q hq)).2.2] at this
      cases this
/-- the caller's frame and ledger behind a call -/
theorem tell_back {news tl : List (Addr × Obj)} {h' : Heap} (F : Fr h₀ L s.heap m) (N : News h₀ L s.heap news) (hk : Kept s.heap h') (ht : NewIn s.heap h' tl) :
    Fr h₀ L h' m ∧ News h₀ L h' (tl ++ news) ∧ (∀ q ∈ tl, ∀ r ∈ news, q.1 ≠ r.1) := by
  refine ⟨F.grownK hk, fun q hq => ?_, fun q hq r hr e => ?_⟩
  · rcases List.mem_append.mp hq with hq | hq
    · refine ⟨(ht q hq).1, fun e => ?_, ?_⟩
      · obtain ⟨o, _, _, ho, _⟩ := F.ns
        have := (ht q hq).2
        rw [e, ho] at this
        cases this
      · cases e : h₀.get? q.1 with
        | none => rfl
        | some o =>
          have := F.keep _ _ e
          rw [(ht q hq).2] at this
          cases this
    · exact N.grown hk q hq
  · have := (ht q hq).2
    rw [e, (N r hr).1] at this
    cases this
end

theorem roomL {lim dp a b : Nat} (h : dp + a < lim) (e : b ≤ a) : dp + b < lim := Nat.lt_of_le_of_lt (Nat.add_le_add_left e dp) h
noncomputable def Tell (lv : Nat) (w : World) (mean : ExcName → Option Value) (mg mb : Str → Option Value) (f : Addr) (sub : List (Addr × Obj)) (args : List Value) (Post : List (Addr × Obj) → Value → Prop) : Prop :=
  ∀ (dp un : Nat) (gd : Option (List Code)) (cn : Str) (cs : Scope) (a : Addr) (ccd : Value) (cl : List (Str × Addr)) (outer : List Env) (A₀ : Around) (base h₀ : Heap) (L : Addr) (m : Str → Option Value) (s : Shared)
    (Q E : Value → Shared → Prop),
    Below A₀ base outer h₀ → Fr h₀ L s.heap m → (Mine.hd.heap_1 w.params).In h₀ → News h₀ L s.heap sub → Top VW LO mean mg mb h₀ → cs.kind = .function → dp + 2 * lv < recursionLimit → un + 20 * lv < cLine →
    (∀ r tl h' tk', Kept s.heap h' → NewIn s.heap h' tl → Post tl r → Q r { s with heap := h', toks := tk' }) →
    wpAny (model PySem.Challenge.rw_pg0251_01.row.prog w) (ktrTop dp un gd cn cs L a ccd cl outer) (call (.ref f) args) Q E s

theorem tell_fin {s : Shared} {sub : List (Addr × Obj)} {Post : List (Addr × Obj) → Value → Prop} {Q : Value → Shared → Prop} {r : Value} {tk' : Nat} {g h' : Heap} {L' : Addr} {m' : Str → Option Value} {all : List (Addr × Obj)}
    (hret : ∀ r tl h' tk', Kept s.heap h' → NewIn s.heap h' tl → Post tl r → Q r { s with heap := h', toks := tk' })
    (hg : AllBut sub s.heap g) (F : Fr g L' h' m') (N : News g L' h' all) {h₀ : Heap} {L : Addr} (hN : News h₀ L s.heap sub) (hs : SubL sub all) (tl : List (Addr × Obj)) (ht : SubL tl all) (hne : ∀ q ∈ tl, ∀ r ∈ sub, q.1 ≠ r.1)
    (hp : Post tl r) : Q r { s with heap := h', toks := tk' } :=
  have k := tell_end hg F N (fun q hq => (hN q hq).1) hs.mem tl ht.mem hne
  hret r tl h' tk' k.1 k.2 hp

section
variable {prog : Program} {w : World} {A : Around} {E : Value → Shared → Prop} {s : Shared} {h₀ : Heap} {L : Addr} {m : Str → Option Value} {news : List (Addr × Obj)}
theorem max_three_N {a b c : Int} {t u x : Tok} {Q : Value → Shared → Prop} (hh : A.handled = none) (F : Fr h₀ L s.heap m) (N : News h₀ L s.heap news)
    (h : ∀ M tk' h' tk, Fr h₀ L h' m → News h₀ L h' news → a ≤ M → b ≤ M → c ≤ M → (M = a ∨ M = b ∨ M = c) → Q (.int M tk') { s with heap := h', toks := tk }) :
    wpAny (model prog w) A (call (.builtin "max") [.int a t, .int b u, .int c x]) Q E s :=
  max_three_ints hh fun h' tk hk => by
    have key := fun M tk' => h M tk' h' tk (F.grownK hk) (N.grown hk)
    by_cases c1 : b > a <;> by_cases c2 : c > b <;> by_cases c3 : c > a <;> simp only [c1, c2, c3, if_true, if_false] <;> exact key _ _ (by omega) (by omega) (by omega) (by omega)
theorem min_three_N {a b c : Int} {t u x : Tok} {Q : Value → Shared → Prop} (hh : A.handled = none) (F : Fr h₀ L s.heap m) (N : News h₀ L s.heap news)
    (h : ∀ M tk' h' tk, Fr h₀ L h' m → News h₀ L h' news → M ≤ a → M ≤ b → M ≤ c → (M = a ∨ M = b ∨ M = c) → Q (.int M tk') { s with heap := h', toks := tk }) :
    wpAny (model prog w) A (call (.builtin "min") [.int a t, .int b u, .int c x]) Q E s :=
  min_three_ints hh fun h' tk hk => by
    have key := fun M tk' => h M tk' h' tk (F.grownK hk) (N.grown hk)
    by_cases c1 : b < a <;> by_cases c2 : c < b <;> by_cases c3 : c < a <;> simp only [c1, c2, c3, if_true, if_false] <;> exact key _ _ (by omega) (by omega) (by omega) (by omega)
end
end Mine
end
end
section
open PySem
namespace Mine
noncomputable def mx3 (a b c : Int) : Int := max a (max b c)
noncomputable def mn3 (a b c : Int) : Int := min a (min b c)
noncomputable def quoF (a b : Int) : UInt64 := Float64.ofFrac (decide (a < 0) != decide (b < 0)) a.natAbs b.natAbs
noncomputable def hueF (r g b : Int) : UInt64 :=
  if mn3 r g b = mx3 r g b then 0 else
  (Float64.divmod (Float64.div (
    if r = mx3 r g b then Float64.sub (quoF (mx3 r g b - b) (mx3 r g b - mn3 r g b)) (quoF (mx3 r g b - g) (mx3 r g b - mn3 r g b))
    else if g = mx3 r g b then Float64.sub (Float64.add 4611686018427387904 (quoF (mx3 r g b - r) (mx3 r g b - mn3 r g b))) (quoF (mx3 r g b - b) (mx3 r g b - mn3 r g b))
    else Float64.sub (Float64.add 4616189618054758400 (quoF (mx3 r g b - g) (mx3 r g b - mn3 r g b))) (quoF (mx3 r g b - r) (mx3 r g b - mn3 r g b)))
    4618441417868443648) 4607182418800017408).2
noncomputable def satF (r g b : Int) : UInt64 := if mn3 r g b = mx3 r g b then 0 else quoF (mx3 r g b - mn3 r g b) (mx3 r g b)

structure Dir where
  n : Nat
  h : UInt64
  hh : Nat
  h1 : UInt64
  hh1 : Nat
  p : Nat
  q : Nat
noncomputable def dirs : List Dir := [⟨0, 0, 0, 4607182418800017408, 288230376151711744, 9, 8⟩, ⟨105, 4581662020911584597, 6004799503160661, 4607276243792254293, 294235175654872384, 16, 9⟩, ⟨120, 4582519849412036123, 6862628003612187, 4607289647362573848, 295093004155323904, 15, 9⟩, ⟨140, 4583663620745971483, 8006399337547547, 4607307518789666588, 296236775489259264, 14, 9⟩, ⟨168, 4584964660638322960, 9607679205057056, 4607332538787596424, 297838055356768768, 13, 9⟩, ⟨210, 4586165620538955093, 12009599006321322, 4607370068784491179, 300239975158033088, 12, 9⟩, ⟨240, 4587023449039406616, 13725256007224368, 4607396875925130289, 301955632158936128, 15, 10⟩, ⟨280, 4588167220373341981, 16012798675095098, 4607432618779315769, 304243174826806848, 11, 9⟩, ⟨315, 4589168020290535424, 18014398509481984, 4607463893776728064, 306244774661193728, 16, 11⟩, ⟨336, 4589468260265693457, 19215358410114116, 4607482658775175441, 307445734561825856, 13, 10⟩, ⟨360, 4589811391665874067, 20587884010836556, 4607504104487686729, 308818260162548288, 15, 11⟩, ⟨420, 4590669220166325589, 24019198012642644, 4607557718768964949, 312249574164354368, 10, 9⟩, ⟨480, 4591527048666777112, 27450512014448736, 4607611333050243170, 315680888166160512, 15, 12⟩, ⟨504, 4591870180066957721, 28823037615171172, 4607632778762754458, 317053413766882944, 13, 11⟩, ⟨525, 4592170420042115755, 30023997515803308, 4607651543761201835, 318254373667515072, 16, 13⟩, ⟨560, 4592670820000712477, 32025597350190196, 4607682818758614130, 320255973501901952, 11, 10⟩, ⟨600, 4593242705667680159, 34313140018060924, 4607718561612799610, 322543516169772672, 15, 13⟩, ⟨630, 4593671619917905920, 36028797018963968, 4607745368753438720, 324259173170675712, 12, 11⟩, ⟨672, 4593971859893063953, 38430716820228232, 4607782898750333474, 326661092971939968, 13, 12⟩, ⟨700, 4594172019876502642, 40031996687737744, 4607807918748263310, 328262372839449472, 14, 13⟩, ⟨720, 4594314991293244563, 41175768021673112, 4607825790175356050, 329406144173384832, 15, 14⟩, ⟨735, 4594422219855801003, 42033596522124632, 4607839193745675605, 330263972673836352, 16, 15⟩, ⟨840, 4595172819793696085, 48038396025285288, 4607933018737912491, 336268772176997056, 9, 9⟩, ⟨945, 4595923419731591168, 54043195528445952, 4608026843730149376, 342273571680157696, 15, 16⟩, ⟨960, 4596030648294147608, 54901024028897472, 4608040247300468931, 343131400180609216, 14, 15⟩, ⟨980, 4596173619710889528, 56044795362832832, 4608058118727561671, 344275171514544576, 13, 14⟩, ⟨1008, 4596373779694328219, 57646075230342360, 4608083138725491507, 345876451382054080, 12, 13⟩, ⟨1050, 4596674019669486251, 60047995031606616, 4608120668722386261, 348278371183318336, 11, 12⟩, ⟨1080, 4596888476794599131, 61763652032509656, 4608147475863025371, 349994028184221376, 13, 15⟩, ⟨1120, 4597174419628082973, 64051194700380392, 4608183218717210852, 352281570852092160, 10, 11⟩, ⟨1155, 4597424619607381333, 66052794534767272, 4608214493714623147, 354283170686479040, 13, 16⟩, ⟨1176, 4597574739594960349, 67253754435399400, 4608233258713070524, 355484130587111168, 11, 13⟩, ⟨1200, 4597746305295050653, 68626280036121832, 4608254704425581812, 356856656187833600, 12, 15⟩, ⟨1260, 4598175219545276416, 72057594037927936, 4608308318706860032, 360287970189639680, 9, 10⟩, ⟨1320, 4598389676670389296, 75488908039734016, 4608361932988138252, 363719284191445760, 11, 15⟩, ⟨1344, 4598475459520434449, 76861433640456464, 4608383378700649540, 365091809792168192, 10, 13⟩, ⟨1365, 4598550519514223957, 78062393541088592, 4608402143699096917, 366292769692800320, 11, 16⟩, ⟨1400, 4598675619503873137, 80063993375475472, 4608433418696509212, 368294369527187200, 9, 11⟩, ⟨1440, 4598818590920615059, 82351536043346224, 4608469161550694693, 370581912195057984, 10, 15⟩, ⟨1470, 4598925819483171499, 84067193044249264, 4608495968691333803, 372297569195961024, 9, 12⟩, ⟨1512, 4599075939470750515, 86469112845513520, 4608533498688228557, 374699488997225280, 9, 13⟩, ⟨1540, 4599176019462469860, 88070392713023040, 4608558518686158393, 376300768864734784, 9, 14⟩, ⟨1560, 4599247505170840820, 89214164046958400, 4608576390113251133, 377444540198670144, 9, 15⟩, ⟨1575, 4599301119452119040, 90071992547409920, 4608589793683570688, 378302368699121664, 9, 16⟩, ⟨1680, 4599676419421066581, 96076792050570576, 4608683618675807573, 384307168202282304, 8, 9⟩, ⟨1785, 4600051719390014123, 102081591553731248, 4608777443668044459, 390311967705443008, 7, 15⟩, ⟨1800, 4600105333671292343, 102939420054182768, 4608790847238364014, 391169796205894528, 7, 14⟩, ⟨1820, 4600176819379663303, 104083191388118128, 4608808718665456754, 392313567539829888, 7, 13⟩, ⟨1848, 4600276899371382648, 105684471255627648, 4608833738663386590, 393914847407339392, 7, 12⟩, ⟨1890, 4600427019358961664, 108086391056891904, 4608871268660281344, 396316767208603648, 7, 11⟩, ⟨1920, 4600534247921518104, 109802048057794944, 4608898075800920454, 398032424209506688, 6, 13⟩, ⟨1960, 4600677219338260025, 112089590725665680, 4608933818655105934, 400319966877377408, 7, 10⟩, ⟨1995, 4600802319327909205, 114091190560052560, 4608965093652518229, 402321566711764288, 5, 13⟩, ⟨2016, 4600877379321698713, 115292150460684688, 4608983858650965606, 403522526612396416, 6, 11⟩, ⟨2040, 4600963162171743867, 116664676061407152, 4609005304363476895, 404895052213118912, 5, 12⟩, ⟨2100, 4601177619296856747, 120095990063213232, 4609058918644755115, 408326366214924992, 7, 9⟩, ⟨2160, 4601392076421969628, 123527304065019328, 4609112532926033335, 411757680216731072, 4, 11⟩, ⟨2184, 4601477859272014780, 124899829665741760, 4609133978638544623, 413130205817453504, 5, 10⟩, ⟨2205, 4601552919265804288, 126100789566373888, 4609152743636992000, 414331165718085632, 3, 11⟩, ⟨2240, 4601678019255453468, 128102389400760768, 4609184018634404295, 416332765552472512, 6, 9⟩, ⟨2280, 4601820990672195389, 130389932068631504, 4609219761488589775, 418620308220343232, 3, 10⟩, ⟨2310, 4601928219234751829, 132105589069534544, 4609246568629228885, 420335965221246272, 5, 9⟩, ⟨2352, 4602078339222330845, 134507508870798800, 4609284098626123639, 422737885022510528, 4, 9⟩, ⟨2380, 4602178419214050191, 136108788738308336, 4609309118624053476, 424339164890020096, 3, 9⟩, ⟨2400, 4602249904922421151, 137252560072243696, 4609326990051146216, 425482936223955456, 2, 9⟩, ⟨2415, 4602303519203699371, 138110388572695216, 4609340393621465771, 426340764724406976, 1, 9⟩, ⟨2520, 4602678819172646912, 144115188075855872, 4609434218613702656, 432345564227567616, 7, 8⟩, ⟨2625, 4602866469157120683, 150119987579016544, 4609528043605939542, 438350363730728320, 0, 7⟩, ⟨2640, 4602893276297759793, 150977816079468064, 4609541447176259096, 439208192231179776, 1, 7⟩, ⟨2660, 4602929019151945273, 152121587413403424, 4609559318603351836, 440351963565115136, 2, 7⟩, ⟨2688, 4602979059147804945, 153722867280912928, 4609584338601281672, 441953243432624640, 3, 7⟩, ⟨2730, 4603054119141594453, 156124787082177184, 4609621868598176426, 444355163233888896, 4, 7⟩, ⟨2760, 4603107733422872673, 157840444083080224, 4609648675738815536, 446070820234791936, 1, 6⟩, ⟨2800, 4603179219131243633, 160127986750950944, 4609684418593001016, 448358362902662656, 5, 7⟩, ⟨2835, 4603241769126068224, 162129586585337856, 4609715693590413312, 450359962737049600, 0, 5⟩, ⟨2856, 4603279299122962979, 163330546485970016, 4609734458588860690, 451560922637681792, 3, 6⟩, ⟨2880, 4603322190547985555, 164703072086692448, 4609755904301371978, 452933448238404224, 1, 5⟩, ⟨2940, 4603429419110541995, 168134386088498528, 4609809518582650198, 456364762240210304, 6, 7⟩, ⟨3000, 4603536647673098435, 171565700090304608, 4609863132863928418, 459796076242016384, 1, 4⟩, ⟨3024, 4603579539098121011, 172938225691027040, 4609884578576439706, 461168601842738816, 3, 5⟩, ⟨3045, 4603617069095015765, 174139185591659168, 4609903343574887082, 462369561743370880, 0, 3⟩, ⟨3080, 4603679619089840356, 176140785426046080, 4609934618572299378, 464371161577757824, 5, 6⟩, ⟨3120, 4603751104798211316, 178428328093916800, 4609970361426484858, 466658704245628544, 1, 3⟩, ⟨3150, 4603804719079489536, 180143985094819840, 4609997168567123968, 468374361246531584, 4, 5⟩, ⟨3192, 4603879779073279044, 182545904896084096, 4610034698564018722, 470776281047795840, 3, 4⟩, ⟨3220, 4603929819069138716, 184147184763593600, 4610059718561948558, 472377560915305344, 2, 3⟩, ⟨3240, 4603965561923324196, 185290956097528960, 4610077589989041298, 473521332249240704, 1, 2⟩, ⟨3255, 4603992369063963307, 186148784597980512, 4610090993559360854, 474379160749692288, 0, 1⟩, ⟨3360, 4604180019048437077, 192153584101141152, 4610184818551597738, 480383960252852864, 7, 7⟩, ⟨3465, 4604367669032910848, 198158383604301824, 4610278643543834624, 486388759756013568, 1, 0⟩, ⟨3480, 4604394476173549959, 199016212104753376, 4610292047114154180, 487246588256465152, 2, 1⟩, ⟨3500, 4604430219027735439, 200159983438688736, 4610309918541246920, 488390359590400512, 3, 2⟩, ⟨3528, 4604480259023595111, 201761263306198240, 4610334938539176756, 489991639457910016, 4, 3⟩, ⟨3570, 4604555319017384619, 204163183107462496, 4610372468536071510, 492393559259174272, 5, 4⟩, ⟨3600, 4604608933298662839, 205878840108365536, 4610399275676710620, 494109216260077312, 3, 1⟩, ⟨3640, 4604680419007033799, 208166382776236256, 4610435018530896100, 496396758927948032, 6, 5⟩, ⟨3675, 4604742969001858389, 210167982610623136, 4610466293528308394, 498398358762334848, 3, 0⟩, ⟨3696, 4604780498998753144, 211368942511255296, 4610485058526755772, 499599318662967040, 5, 3⟩, ⟨3720, 4604823390423775720, 212741468111977728, 4610506504239267060, 500971844263689472, 4, 1⟩, ⟨3780, 4604930618986332160, 216172782113783808, 4610560118520545280, 504403158265495552, 7, 6⟩, ⟨3840, 4605037847548888600, 219604096115589888, 4610613732801823500, 507834472267301632, 5, 1⟩, ⟨3864, 4605080738973911176, 220976621716312320, 4610635178514334788, 509206997868024064, 6, 3⟩, ⟨3885, 4605118268970805931, 222177581616944480, 4610653943512782166, 510407957768656256, 5, 0⟩, ⟨3920, 4605180818965630521, 224179181451331360, 4610685218510194460, 512409557603043072, 7, 5⟩, ⟨3960, 4605252304674001481, 226466724119202080, 4610720961364379940, 514697100270913792, 6, 1⟩, ⟨3990, 4605305918955279701, 228182381120105120, 4610747768505019050, 516412757271816832, 7, 4⟩, ⟨4032, 4605380978949069209, 230584300921369376, 4610785298501913804, 518814677073081088, 7, 3⟩, ⟨4060, 4605431018944928881, 232185580788878880, 4610810318499843640, 520415956940590592, 7, 2⟩, ⟨4080, 4605466761799114361, 233329352122814240, 4610828189926936380, 521559728274525952, 7, 1⟩, ⟨4095, 4605493568939753472, 234187180623265792, 4610841593497255936, 522417556774977536, 7, 0⟩, ⟨4200, 4605681218924227243, 240191980126426464, 4610935418489492822, 528422356278138240, 8, 7⟩, ⟨4305, 4605868868908701013, 246196779629587104, 4611029243481729706, 534427155781298816, 9, 1⟩, ⟨4320, 4605895676049340123, 247054608130038624, 4611042647052049262, 535284984281750400, 9, 2⟩, ⟨4340, 4605931418903525604, 248198379463974016, 4611060518479142002, 536428755615685760, 9, 3⟩, ⟨4368, 4605981458899385276, 249799659331483520, 4611085538477071838, 538030035483195264, 9, 4⟩, ⟨4410, 4606056518893174784, 252201579132747776, 4611123068473966592, 540431955284459520, 9, 5⟩, ⟨4440, 4606110133174453004, 253917236133650816, 4611149875614605702, 542147612285362560, 10, 3⟩, ⟨4480, 4606181618882823964, 256204778801521536, 4611185618468791182, 544435154953233280, 9, 6⟩, ⟨4515, 4606244168877648555, 258206378635908448, 4611216893466203478, 546436754787620224, 11, 3⟩, ⟨4536, 4606281698874543309, 259407338536540576, 4611235658464650854, 547637714688252288, 10, 5⟩, ⟨4560, 4606324590299565885, 260779864137263008, 4611257104177162142, 549010240288974720, 11, 4⟩, ⟨4620, 4606431818862122325, 264211178139069088, 4611310718458440362, 552441554290780800, 9, 7⟩, ⟨4680, 4606539047424678766, 267642492140875200, 4611364332739718583, 555872868292586944, 12, 5⟩, ⟨4704, 4606581938849701342, 269015017741597632, 4611385778452229871, 557245393893309376, 11, 6⟩, ⟨4725, 4606619468846596096, 270215977642229760, 4611404543450677248, 558446353793941504, 13, 5⟩, ⟨4760, 4606682018841420686, 272217577476616640, 4611435818448089543, 560447953628328384, 10, 7⟩, ⟨4800, 4606753504549791646, 274505120144487360, 4611471561302275023, 562735496296199104, 13, 6⟩, ⟨4830, 4606807118831069867, 276220777145390432, 4611498368442914134, 564451153297102208, 11, 7⟩, ⟨4872, 4606882178824859375, 278622696946654688, 4611535898439808888, 566853073098366464, 12, 7⟩, ⟨4900, 4606932218820719047, 280223976814164192, 4611560918437738724, 568454352965875968, 13, 7⟩, ⟨4920, 4606967961674904527, 281367748148099552, 4611578789864831464, 569598124299811328, 14, 7⟩, ⟨4935, 4606994768815543637, 282225576648551072, 4611592193435151018, 570455952800262784, 15, 7⟩]
open Float64 in
noncomputable def chkV (x : UInt64) (k : Nat) : Bool := match decode x with
  | .fin false m e => (Nat.beq m 0 && Nat.beq k 0) || (decide (-58 ≤ e) && Nat.beq (m * 2 ^ (e + 58).toNat) k)
  | _ => false
noncomputable def near (k n : Nat) : Bool := Nat.ble (5040 * k) (n * 2 ^ 58 + 2 ^ 24) && Nat.ble (n * 2 ^ 58) (5040 * k + 2 ^ 24)
noncomputable def chk1 (d : Dir) : Bool := chkV d.h d.hh && (chkV d.h1 d.hh1 && ((Float64.add d.h 4607182418800017408 == d.h1) && (near d.hh d.n && (near d.hh1 (d.n + 5040) && (Nat.blt d.n 5040 && (Nat.ble d.p 16 && Nat.ble d.q 16))))))
theorem chk1_all : (dirs.all chk1) = true := by decide +kernel
noncomputable def chkN (x y : Dir) : Bool := (Nat.ble (x.n + 15) y.n || (Nat.ble (y.n + 15) x.n || (Nat.beq x.n y.n && Nat.beq x.hh y.hh))) && ((Nat.ble y.n (x.n + 2520) || Nat.ble (x.n + 2535) y.n) && (Nat.ble (x.n + 2520) y.n || Nat.ble y.n (x.n + 2505)))
theorem chkN_all : (dirs.all fun x => dirs.all fun y => chkN x y) = true := by decide +kernel
/-- both sides of the span, and of the dot, raised to numbers -/
noncomputable def sL (x y : Dir) : Nat := Nat.add (Nat.mul x.p y.q) (Nat.mul 8 (Nat.add x.q y.p))
noncomputable def sR (x y : Dir) : Nat := Nat.add (Nat.mul x.q y.p) (Nat.mul 8 (Nat.add x.p y.q))
noncomputable def dL (x y : Dir) : Nat := Nat.add (Nat.add (Nat.mul x.p y.p) (Nat.mul x.q y.q)) 128
noncomputable def dR (x y : Dir) : Nat := Nat.mul 8 (Nat.add (Nat.add x.p y.p) (Nat.add x.q y.q))
noncomputable def ahead (x y : Dir) : Bool := (Nat.blt x.n y.n && Nat.blt y.n (x.n + 2520)) || Nat.blt (y.n + 2520) x.n
noncomputable def oppo (x y : Dir) : Bool := Nat.beq x.n (y.n + 2520) || Nat.beq y.n (x.n + 2520)
noncomputable def chkS (x y : Dir) : Bool := (Nat.blt (sR x y) (sL x y) == ahead x y) && ((Nat.beq (sL x y) (sR x y) && Nat.blt (dL x y) (dR x y)) == oppo x y)
theorem chkS_all : (dirs.all fun x => dirs.all fun y => chkS x y) = true := by decide +kernel

end Mine
end
section
open PySem

set_option maxRecDepth 10000
namespace Mine
open Float64
theorem KK_ex : ∃ K : Nat, K = 2 ^ 1016 := ⟨_, rfl⟩
noncomputable def KK : Nat := Classical.choose KK_ex
theorem KK_eq : KK = 2 ^ 1016 := Classical.choose_spec KK_ex
theorem KK_pos : 0 < KK := by rw [KK_eq]; exact Nat.two_pow_pos _
/-- a float without sign whose value is k of 2^58 -/
noncomputable def FV (x : UInt64) (k : Nat) : Prop := (∃ m e, decode x = .fin false m e) ∧ val x = ((k * KK : Nat) : Int)
theorem FV.of_chk {x : UInt64} {k : Nat} (h : chkV x k = true) : FV x k := by
  unfold chkV at h
  cases hd : decode x with
  | nan => rw [hd] at h; cases h
  | inf b => rw [hd] at h; cases h
  | fin b m e =>
    rw [hd] at h
    cases b with
    | true => cases h
    | false =>
      refine ⟨⟨m, e, hd⟩, ?_⟩
      rw [val_eq hd]
      show ((m * 2 ^ (e + 1074).toNat : Nat) : Int) = _
      congr 1
      simp only [Bool.or_eq_true, Bool.and_eq_true, decide_eq_true_eq, Nat.beq_eq] at h
      rcases h with ⟨a, b⟩ | ⟨a, b⟩
      · subst a; subst b; rw [Nat.zero_mul, Nat.zero_mul]
      · have : (e + 1074).toNat = (e + 58).toNat + 1016 := by lia
        rw [this, Nat.pow_add, ← b, Nat.mul_assoc, KK_eq]
theorem FV.cmp {x y : UInt64} {a b : Nat} (hx : FV x a) (hy : FV y b) : cmp x y = some (compare a b) := by
  obtain ⟨⟨m, e, h1⟩, h2⟩ := hx
  obtain ⟨⟨m', e', h1'⟩, h2'⟩ := hy
  rw [cmp_right h1 h1', h2, h2']
  have hK := KK_pos
  congr 1
  rcases Nat.lt_trichotomy a b with h | h | h
  · rw [Int.compare_eq_lt.mpr (Int.ofNat_lt.mpr (Nat.mul_lt_mul_of_pos_right h hK)), Nat.compare_eq_lt.mpr h]
  · subst h; simp
  · rw [Int.compare_eq_gt.mpr (Int.ofNat_lt.mpr (Nat.mul_lt_mul_of_pos_right h hK)), Nat.compare_eq_gt.mpr h]
theorem big_no (W : Nat) (h : W ≤ 2 ^ 60 * KK) : ¬ 1 * ((2 ^ 54 - 1) * 2 ^ 2045) ≤ 2 * W := by
  have h2 : 2 * (2 ^ 60 * KK) < 1 * ((2 ^ 54 - 1) * 2 ^ 2045) := by rw [KK_eq]; decide +kernel
  exact fun q => absurd (Nat.le_trans q (Nat.mul_le_mul_left 2 h)) (Nat.not_le_of_lt h2)
/-- the difference of two, rounded: within what is told of the exact one -/
theorem FV.sub {x y : UInt64} {a b : Nat} (hx : FV x a) (hy : FV y b) (hab : b ≤ a) (ha : a ≤ 2 ^ 60) :
    ∃ V0 m e, decode (sub x y) = .fin false m e ∧ val (sub x y) = ((V0 : Nat) : Int) ∧ (∀ t c, V t = c * KK → a - b ≤ c → V0 ≤ c * KK) ∧ (∀ t c, V t = c * KK → c ≤ a - b → c * KK ≤ V0) := by
  obtain ⟨⟨m, e, h1⟩, h2⟩ := hx
  obtain ⟨⟨m', e', h1'⟩, h2'⟩ := hy
  have hs := sub_right h1 h1'
  have hK := KK_pos
  have hd : val x - val y = (((a - b) * KK : Nat) : Int) := by
    rw [h2, h2', Nat.sub_mul]
    have := Nat.mul_le_mul_right KK hab
    omega
  rw [hd] at hs
  by_cases h0 : a = b
  · subst h0
    have hz := hs.1 (by simp)
    rw [hz]
    refine ⟨0, 0, -1074, by with_unfolding_all rfl, by with_unfolding_all rfl, fun _ c _ _ => Nat.zero_le _, fun t c _ hc => ?_⟩
    have : c = 0 := by lia
    subst this; lia
  · have hpos : 0 < (a - b) * KK := Nat.mul_pos (by lia) hK
    have hr := hs.2 (by omega)
    rw [show decide ((((a - b) * KK : Nat) : Int) < 0) = false from decide_eq_false (Int.not_lt.mpr (Int.natCast_nonneg _)), Int.natAbs_natCast] at hr
    obtain ⟨t, ht, hle, hiff, hnear⟩ := hr
    have hW : (a - b) * KK ≤ 2 ^ 60 * KK := Nat.mul_le_mul_right _ (by omega)
    have hlt : t < infMag := by
      rcases Nat.lt_or_ge t infMag with h | h
      · exact h
      · exact absurd (hiff.mp (Nat.le_antisymm hle h)) (big_no _ hW)
    obtain ⟨m2, e2, hd2, hv2⟩ := decode_pack false hlt
    have hn := hnear hlt
    rw [ht]
    refine ⟨V t, m2, e2, hd2, val_pack false hlt, fun t' c hc hac => ?_, fun t' c hc hac => ?_⟩
    · have h3 := (hn t').1
      have h4 := Nat.mul_le_mul_right KK hac
      unfold dist at h3
      rw [hc] at h3
      omega
    · have h3 := (hn t').1
      have h4 := Nat.mul_le_mul_right KK hac
      unfold dist at h3
      rw [hc] at h3
      omega
/-- no NaN, no infinity -/
noncomputable def Fin' (x : UInt64) : Prop := ∃ b m e, decode x = .fin b m e
theorem Fin'.cmp {x y : UInt64} (hx : Fin' x) (hy : Fin' y) : cmp x y = some (compare (val x) (val y)) := by
  obtain ⟨_, _, _, h⟩ := hx
  obtain ⟨_, _, _, h'⟩ := hy
  exact cmp_right h h'
theorem Fin'.lt {x y : UInt64} (hx : Fin' x) (hy : Fin' y) : (Float64.cmp x y == some .lt) = decide (val x < val y) := by
  rw [hx.cmp hy]
  rcases Int.lt_trichotomy (val x) (val y) with h | h | h
  · rw [Int.compare_eq_lt.mpr h]; simp [h]
  · rw [h]; simp
  · rw [Int.compare_eq_gt.mpr h]; simp; lia
theorem Fin'.gt {x y : UInt64} (hx : Fin' x) (hy : Fin' y) : (Float64.cmp x y == some .gt) = decide (val y < val x) := by
  rw [hx.cmp hy]
  rcases Int.lt_trichotomy (val x) (val y) with h | h | h
  · rw [Int.compare_eq_lt.mpr h]; simp; lia
  · rw [h]; simp
  · rw [Int.compare_eq_gt.mpr h]; simp [h]
theorem FV.fin {x a} (h : FV x a) : Fin' x := let ⟨m, e, q⟩ := h.1; ⟨false, m, e, q⟩
noncomputable def cHalf : UInt64 := 4602687826371901653
theorem fv_half : FV cHalf 144403418452007584 := FV.of_chk (by decide +kernel)
theorem V_half : V 4602687826371901653 = 144403418452007584 * KK := by rw [KK_eq]; decide +kernel
theorem V_less : V 4602683322772274282 = 144259303263931712 * KK := by rw [KK_eq]; decide +kernel
theorem FV.gap {x y : UInt64} {a b : Nat} (hx : FV x a) (hy : FV y b) (hab : b ≤ a) (ha : a ≤ 2 ^ 60) :
    Fin' (Float64.sub x y) ∧ (a - b ≤ 144259303263931712 → val (Float64.sub x y) < val cHalf) ∧ (144403418452007584 ≤ a - b → ¬ val (Float64.sub x y) < val cHalf) := by
  obtain ⟨V0, m, e, hd, hv, h1, h2⟩ := hx.sub hy hab ha
  refine ⟨⟨false, m, e, hd⟩, fun h => ?_, fun h => ?_⟩
  · have := h1 _ _ V_less h
    have h3 : 144259303263931712 * KK < 144403418452007584 * KK := Nat.mul_lt_mul_of_pos_right (by decide) KK_pos
    rw [hv, fv_half.2]; omega
  · have := h2 _ _ V_half h
    rw [hv, fv_half.2]; omega
/-- what a direction's row tells -/
structure Row (d : Dir) : Prop where
  fv : FV d.h d.hh
  fv1 : FV d.h1 d.hh1
  ad : Float64.add d.h 4607182418800017408 = d.h1
  n1 : 5040 * d.hh ≤ d.n * 2 ^ 58 + 2 ^ 24
  n2 : d.n * 2 ^ 58 ≤ 5040 * d.hh + 2 ^ 24
  n3 : 5040 * d.hh1 ≤ (d.n + 5040) * 2 ^ 58 + 2 ^ 24
  n4 : (d.n + 5040) * 2 ^ 58 ≤ 5040 * d.hh1 + 2 ^ 24
  lt : d.n < 5040
  p : d.p ≤ 16
  q : d.q ≤ 16
theorem row_of {d : Dir} (h : d ∈ dirs) : Row d := by
  have := List.all_eq_true.mp chk1_all d h
  unfold chk1 near at this
  simp only [Bool.and_eq_true, Nat.ble_eq, beq_iff_eq] at this
  obtain ⟨a, b, c, ⟨d1, d2⟩, ⟨e1, e2⟩, f, g1, g2⟩ := this
  exact ⟨.of_chk a, .of_chk b, c, d1, d2, e1, e2, by unfold Nat.blt at f; exact Nat.le_of_ble_eq_true f, g1, g2⟩
theorem two_of {x y : Dir} (hx : x ∈ dirs) (hy : y ∈ dirs) : (x.n + 15 ≤ y.n ∨ y.n + 15 ≤ x.n ∨ (x.n = y.n ∧ x.hh = y.hh)) ∧ (y.n ≤ x.n + 2520 ∨ x.n + 2535 ≤ y.n) ∧ (x.n + 2520 ≤ y.n ∨ y.n ≤ x.n + 2505) := by
  have := List.all_eq_true.mp (List.all_eq_true.mp chkN_all x hx) y hy
  unfold chkN at this
  simpa only [Bool.and_eq_true, Bool.or_eq_true, Nat.ble_eq, Nat.beq_eq] using this
/-- order and gaps of two hues, told by their codes -/
theorem hue_cmp {x y : Dir} (hx : x ∈ dirs) (hy : y ∈ dirs) : Float64.cmp x.h y.h = some (compare x.n y.n) := by
  have rx := row_of hx
  have ry := row_of hy
  rw [rx.fv.cmp ry.fv]
  congr 1
  have := rx.n1; have := rx.n2; have := ry.n1; have := ry.n2
  rcases (two_of hx hy).1 with h | h | h
  · rw [Nat.compare_eq_lt.mpr (show x.hh < y.hh by omega), Nat.compare_eq_lt.mpr (show x.n < y.n by omega)]
  · rw [Nat.compare_eq_gt.mpr (show y.hh < x.hh by omega), Nat.compare_eq_gt.mpr (show y.n < x.n by omega)]
  · rw [h.1, h.2]; simp
theorem hue_gap {x y : Dir} (hx : x ∈ dirs) (hy : y ∈ dirs) (h : x.n ≤ y.n) : Fin' (sub y.h x.h) ∧ (val (sub y.h x.h) < val cHalf ↔ y.n ≤ x.n + 2520) := by
  have rx := row_of hx
  have ry := row_of hy
  have := rx.n1; have := rx.n2; have := ry.n1; have := ry.n2; have := ry.lt
  have tw := two_of hx hy
  have hle : x.hh ≤ y.hh := by rcases tw.1 with h | h | h <;> lia
  obtain ⟨f, g1, g2⟩ := ry.fv.gap rx.fv hle (by lia)
  refine ⟨f, fun hv => ?_, fun hv => g1 (by lia)⟩
  rcases tw.2.1 with h | h
  · exact h
  · exact absurd hv (g2 (by lia))
theorem hue_gap1 {x y : Dir} (hx : x ∈ dirs) (hy : y ∈ dirs) : Fin' (sub (Float64.add x.h 4607182418800017408) y.h) ∧ (val (sub (Float64.add x.h 4607182418800017408) y.h) < val cHalf ↔ x.n + 2520 ≤ y.n) := by
  have rx := row_of hx
  have ry := row_of hy
  rw [rx.ad]
  have a1 := rx.n3; have a2 := rx.n4; have a3 := ry.n1; have a4 := ry.n2; have a5 := ry.lt; have a6 := rx.lt
  simp only [Nat.add_mul] at a1 a2
  have tw := two_of hx hy
  have hle : y.hh ≤ x.hh1 := by lia
  obtain ⟨f, g1, g2⟩ := rx.fv1.gap ry.fv hle (by lia)
  refine ⟨f, fun hv => ?_, fun hv => g1 (by lia)⟩
  rcases tw.2.2 with h | h
  · exact h
  · exact absurd hv (g2 (by lia))
end Mine
end
section
open PySem
namespace Mine
open Float64
noncomputable def chkP (r g b : Nat) : Bool := (Nat.beq r g && Nat.beq g b) || dirs.any fun d => ([1, 2, 3, 4, 5, 6, 7, 8].any fun k => Nat.beq (r + 8 * k) (b + k * d.p) && Nat.beq (g + 8 * k) (b + k * d.q)) && d.h == hueF r g b
theorem chkP_0 : ((List.range 9).all fun a => (List.range 9).all fun c => chkP a c 0) = true := by decide +kernel
theorem chkP_1 : ((List.range 9).all fun a => (List.range 9).all fun c => chkP a 0 c) = true := by decide +kernel
theorem chkP_2 : ((List.range 9).all fun a => (List.range 9).all fun c => chkP 0 a c) = true := by decide +kernel
noncomputable def chkT (m M : Nat) : Bool := Nat.beq m 0 || !(Float64.cmp (quoF m M) 0 == some .eq)
theorem chkT_all : ((List.range 9).all fun a => (List.range 9).all fun c => Nat.blt c a || chkT a c) = true := by decide +kernel
theorem hue_shift (r g b m : Int) : hueF (r - m) (g - m) (b - m) = hueF r g b := by
  have e1 : mx3 (r - m) (g - m) (b - m) = mx3 r g b - m := by unfold mx3; (first | lia | omega)
  have e2 : mn3 (r - m) (g - m) (b - m) = mn3 r g b - m := by unfold mn3; (first | lia | omega)
  unfold hueF
  rw [e1, e2]
  generalize mx3 r g b = M
  generalize mn3 r g b = N
  have c1 : (N - m = M - m) = (N = M) := by apply propext; (first | lia | omega)
  have c2 : (r - m = M - m) = (r = M) := by apply propext; (first | lia | omega)
  have c3 : (g - m = M - m) = (g = M) := by apply propext; (first | lia | omega)
  have d1 : M - m - (r - m) = M - r := by (first | lia | omega)
  have d2 : M - m - (g - m) = M - g := by (first | lia | omega)
  have d3 : M - m - (b - m) = M - b := by (first | lia | omega)
  have d4 : M - m - (N - m) = M - N := by (first | lia | omega)
  simp only [c1, c2, c3, d1, d2, d3, d4]
/-- a paint with hue: its direction -/
noncomputable def Has (r g b : Int) (d : Dir) : Prop := d ∈ dirs ∧ hueF r g b = d.h ∧ ∃ k : Int, 0 < k ∧ r - b = k * ((d.p : Int) - 8) ∧ g - b = k * ((d.q : Int) - 8)
theorem has_nat {r g b : Nat} (h : chkP r g b = true) (hg : ¬ (r = g ∧ g = b)) : ∃ d, Has r g b d := by
  unfold chkP at h
  simp only [Bool.or_eq_true, Bool.and_eq_true, Nat.beq_eq, List.any_eq_true, beq_iff_eq] at h
  rcases h with h | ⟨d, hd, ⟨k, hk, e1, e2⟩, e3⟩
  · exact absurd h hg
  · refine ⟨d, hd, e3.symm, k, ?_, ?_, ?_⟩
    · have : k ≠ 0 := by intro q; subst q; simp at hk
      (first | lia | omega)
    · have := Int.mul_sub (k : Int) d.p 8
      rw [this, ← Int.natCast_mul]; (first | lia | omega)
    · have := Int.mul_sub (k : Int) d.q 8
      rw [this, ← Int.natCast_mul]; (first | lia | omega)
theorem d9 {r b : Int} (hr : r ≤ 8) (hb : 0 ≤ b) : (r - b).toNat < 9 := by lia
theorem has_of {r g b : Int} (hr : 0 ≤ r ∧ r ≤ 8) (hg : 0 ≤ g ∧ g ≤ 8) (hb : 0 ≤ b ∧ b ≤ 8) (hn : ¬ (r = g ∧ g = b)) : ∃ d, Has r g b d := by
  have key : ∀ m : Int, (∃ d, Has (r - m) (g - m) (b - m) d) → ∃ d, Has r g b d := fun m ⟨d, a, b', k, c, e, f⟩ => ⟨d, a, by rw [← hue_shift r g b m]; exact b', k, c, by (first | lia | omega), by (first | lia | omega)⟩
  have all : ∀ {P : Nat → Nat → Bool}, ((List.range 9).all fun a => (List.range 9).all fun c => P a c) = true → ∀ a c : Nat, a < 9 → c < 9 → P a c = true := fun h a c ha hc =>
    List.all_eq_true.mp (List.all_eq_true.mp h a (List.mem_range.mpr ha)) c (List.mem_range.mpr hc)
  by_cases h0 : b ≤ r ∧ b ≤ g
  · refine key b ?_
    have h1 := has_nat (all chkP_0 (r - b).toNat (g - b).toNat (d9 hr.2 hb.1) (d9 hg.2 hb.1)) (by (first | lia | omega))
    have e1 : (((r - b).toNat : Nat) : Int) = r - b := Int.toNat_of_nonneg (Int.sub_nonneg_of_le h0.1)
    have e2 : (((g - b).toNat : Nat) : Int) = g - b := Int.toNat_of_nonneg (Int.sub_nonneg_of_le h0.2)
    have e3 : ((0 : Nat) : Int) = b - b := (Int.sub_self b).symm
    rw [e1, e2, e3] at h1; exact h1
  by_cases h0 : g ≤ r ∧ g ≤ b
  · refine key g ?_
    have h1 := has_nat (all chkP_1 (r - g).toNat (b - g).toNat (d9 hr.2 hg.1) (d9 hb.2 hg.1)) (by (first | lia | omega))
    have e1 : (((r - g).toNat : Nat) : Int) = r - g := Int.toNat_of_nonneg (Int.sub_nonneg_of_le h0.1)
    have e2 : (((b - g).toNat : Nat) : Int) = b - g := Int.toNat_of_nonneg (Int.sub_nonneg_of_le h0.2)
    have e3 : ((0 : Nat) : Int) = g - g := (Int.sub_self g).symm
    rw [e1, e2, e3] at h1; exact h1
  · have k1 : r ≤ g := by (first | lia | omega)
    have k2 : r ≤ b := by (first | lia | omega)
    refine key r ?_
    have h1 := has_nat (all chkP_2 (g - r).toNat (b - r).toNat (d9 hg.2 hr.1) (d9 hb.2 hr.1)) (by (first | lia | omega))
    have e1 : (((g - r).toNat : Nat) : Int) = g - r := Int.toNat_of_nonneg (Int.sub_nonneg_of_le k1)
    have e2 : (((b - r).toNat : Nat) : Int) = b - r := Int.toNat_of_nonneg (Int.sub_nonneg_of_le k2)
    have e3 : ((0 : Nat) : Int) = r - r := (Int.sub_self r).symm
    rw [e1, e2, e3] at h1; exact h1
theorem sat_grey (r : Int) : satF r r r = 0 := by unfold satF mn3 mx3; simp
theorem sat_hue {r g b : Int} (hr : 0 ≤ r ∧ r ≤ 8) (hg : 0 ≤ g ∧ g ≤ 8) (hb : 0 ≤ b ∧ b ≤ 8) (hn : ¬ (r = g ∧ g = b)) : (Float64.cmp (satF r g b) 0 == some .eq) = false := by
  have h1 : mn3 r g b < mx3 r g b := by unfold mn3 mx3; (first | lia | omega)
  have h2 : 0 ≤ mn3 r g b ∧ mx3 r g b ≤ 8 := by unfold mn3 mx3; (first | lia | omega)
  unfold satF
  rw [if_neg (by (first | lia | omega))]
  have h3 := List.all_eq_true.mp (List.all_eq_true.mp chkT_all (mx3 r g b - mn3 r g b).toNat (List.mem_range.mpr (by (first | lia | omega)))) (mx3 r g b).toNat (List.mem_range.mpr (by (first | lia | omega)))
  unfold chkT at h3
  have e1 : (((mx3 r g b - mn3 r g b).toNat : Nat) : Int) = mx3 r g b - mn3 r g b := by (first | lia | omega)
  have e2 : (((mx3 r g b).toNat : Nat) : Int) = mx3 r g b := by (first | lia | omega)
  rw [e1, e2] at h3
  simp only [Bool.or_eq_true, Nat.beq_eq] at h3
  rcases h3 with h | h | h
  · unfold Nat.blt at h; have := Nat.le_of_ble_eq_true h; (first | lia | omega)
  · (first | lia | omega)
  · simpa using h
end Mine
end
section
open PySem
namespace Mine
open Float64
noncomputable def spanZ (a b c d e f : Int) : Int := (a - c) * (e - f) - (b - c) * (d - f)
noncomputable def OppZ (a b c d e f : Int) : Prop := spanZ a b c d e f = 0 ∧ (a - c) * (d - f) + (b - c) * (e - f) < 0
noncomputable def SameZ (x y z : Int) : Prop := (0 < x ∧ 0 < y ∧ 0 < z) ∨ (x < 0 ∧ y < 0 ∧ z < 0)
noncomputable def Ah (m n : Nat) : Prop := (m < n ∧ n < m + 2520) ∨ n + 2520 < m
noncomputable def Op (m n : Nat) : Prop := m = n + 2520 ∨ n = m + 2520
theorem spanS {x y : Dir} (hx : x ∈ dirs) (hy : y ∈ dirs) : ((0 : Int) < ((x.p : Int) - 8) * ((y.q : Int) - 8) - ((x.q : Int) - 8) * ((y.p : Int) - 8) ↔ Ah x.n y.n) ∧
    ((((x.p : Int) - 8) * ((y.q : Int) - 8) - ((x.q : Int) - 8) * ((y.p : Int) - 8) = 0 ∧ ((x.p : Int) - 8) * ((y.p : Int) - 8) + ((x.q : Int) - 8) * ((y.q : Int) - 8) < 0) ↔ Op x.n y.n) := by
  have := List.all_eq_true.mp (List.all_eq_true.mp chkS_all x hx) y hy
  unfold chkS ahead oppo at this
  rw [Bool.and_eq_true, beq_iff_eq, beq_iff_eq] at this
  obtain ⟨h1, h2⟩ := this
  rw [Bool.eq_iff_iff] at h1 h2
  simp only [Bool.and_eq_true, Bool.or_eq_true, Nat.blt, Nat.ble_eq, Nat.succ_le_iff, Nat.beq_eq] at h1 h2
  have eL : ((sL x y : Nat) : Int) = x.p * y.q + 8 * (x.q + y.p) := by unfold sL; simp only [Nat.add_eq, Nat.mul_eq]; lia
  have eR : ((sR x y : Nat) : Int) = x.q * y.p + 8 * (x.p + y.q) := by unfold sR; simp only [Nat.add_eq, Nat.mul_eq]; lia
  have fL : ((dL x y : Nat) : Int) = x.p * y.p + x.q * y.q + 128 := by unfold dL; simp only [Nat.add_eq, Nat.mul_eq]; lia
  have fR : ((dR x y : Nat) : Int) = 8 * (x.p + y.p + (x.q + y.q)) := by unfold dR; simp only [Nat.add_eq, Nat.mul_eq]; lia
  have e1 : ((x.p : Int) - 8) * ((y.q : Int) - 8) - ((x.q : Int) - 8) * ((y.p : Int) - 8) = (sL x y : Nat) - ((sR x y : Nat) : Int) := by rw [eL, eR]; grind
  have e2 : ((x.p : Int) - 8) * ((y.p : Int) - 8) + ((x.q : Int) - 8) * ((y.q : Int) - 8) = (dL x y : Nat) - ((dR x y : Nat) : Int) := by rw [fL, fR]; grind
  rw [e1, e2]
  unfold Ah Op
  constructor
  · rw [← h1]; lia
  · rw [← h2]; lia
theorem span_anti (a b c d e f : Int) : spanZ d e f a b c = -spanZ a b c d e f := by unfold spanZ; grind
theorem mul_pos_iff' {k a : Int} (hk : 0 < k) : 0 < k * a ↔ 0 < a := by
  constructor
  · intro h
    rcases Int.lt_trichotomy 0 a with q | q | q
    · exact q
    · subst q; simp at h
    · have := Int.mul_neg_of_pos_of_neg hk q; omega
  · exact Int.mul_pos hk
theorem mul_zero_iff' {k a : Int} (hk : 0 < k) : k * a = 0 ↔ a = 0 := by
  rw [Int.mul_eq_zero]; lia
theorem mul_neg_iff' {k a : Int} (hk : 0 < k) : k * a < 0 ↔ a < 0 := by
  have := @mul_pos_iff' k (-a) hk
  rw [Int.mul_neg] at this; lia
theorem span_has {a b c d e f : Int} {x y : Dir} (hx : Has a b c x) (hy : Has d e f y) : (0 < spanZ a b c d e f ↔ Ah x.n y.n) ∧ (OppZ a b c d e f ↔ Op x.n y.n) := by
  obtain ⟨mx, _, k, hk, e1, e2⟩ := hx
  obtain ⟨my, _, j, hj, f1, f2⟩ := hy
  have hS := spanS mx my
  have hkj : 0 < k * j := Int.mul_pos hk hj
  have s : spanZ a b c d e f = (k * j) * (((x.p : Int) - 8) * ((y.q : Int) - 8) - ((x.q : Int) - 8) * ((y.p : Int) - 8)) := by unfold spanZ; rw [e1, e2, f1, f2]; grind
  have t : (a - c) * (d - f) + (b - c) * (e - f) = (k * j) * (((x.p : Int) - 8) * ((y.p : Int) - 8) + ((x.q : Int) - 8) * ((y.q : Int) - 8)) := by rw [e1, e2, f1, f2]; grind
  unfold OppZ
  rw [t, s, mul_pos_iff' hkj, mul_zero_iff' hkj, mul_neg_iff' hkj]
  exact hS
/-- what the last of all asks -/
noncomputable def PlainP (a b c d e f x y z : Int) : Prop := SameZ (spanZ d e f x y z) (spanZ x y z a b c) (spanZ a b c d e f) ∨ OppZ d e f x y z ∨ OppZ x y z a b c ∨ OppZ a b c d e f ∨ (a = b ∧ b = c) ∨ (d = e ∧ e = f) ∨ (x = y ∧ y = z)
theorem plain_has {a b c d e f x y z : Int} {X Y Z : Dir} (hx : Has a b c X) (hy : Has d e f Y) (hz : Has x y z Z) :
    (SameZ (spanZ d e f x y z) (spanZ x y z a b c) (spanZ a b c d e f) ∨ OppZ d e f x y z ∨ OppZ x y z a b c ∨ OppZ a b c d e f) ↔
      ((Ah Y.n Z.n ∧ Ah Z.n X.n ∧ Ah X.n Y.n) ∨ (Ah Z.n Y.n ∧ Ah X.n Z.n ∧ Ah Y.n X.n)) ∨ Op Y.n Z.n ∨ Op Z.n X.n ∨ Op X.n Y.n := by
  have n1 : spanZ d e f x y z < 0 ↔ Ah Z.n Y.n := by rw [← (span_has hz hy).1, span_anti d e f x y z]; omega
  have n2 : spanZ x y z a b c < 0 ↔ Ah X.n Z.n := by rw [← (span_has hx hz).1, span_anti x y z a b c]; lia
  have n3 : spanZ a b c d e f < 0 ↔ Ah Y.n X.n := by rw [← (span_has hy hx).1, span_anti a b c d e f]; omega
  unfold SameZ
  rw [(span_has hy hz).1, (span_has hz hx).1, (span_has hx hy).1, n1, n2, n3, (span_has hy hz).2, (span_has hz hx).2, (span_has hx hy).2]
/-- as the paint's hues tell it -/
noncomputable def cmpF (a b : UInt64) : Int := if (Float64.cmp a b == some .lt) = true then -1 else if (Float64.cmp a b == some .gt) = true then 1 else 0
noncomputable def maxB (x y z : UInt64) : UInt64 := if (Float64.cmp (if (Float64.cmp x y == some .lt) = true then y else x) z == some .lt) = true then z else if (Float64.cmp x y == some .lt) = true then y else x
noncomputable def gapF (a b c : UInt64) : Bool := Float64.cmp (maxB (Float64.sub b a) (Float64.sub c b) (Float64.sub (Float64.add a 4607182418800017408) c)) cHalf == some .lt
noncomputable def ins3 (a b c : UInt64) : Bool := if cmpF a c ≤ 0 then (if cmpF b c ≤ 0 then gapF a b c else gapF a c b) else (if cmpF b c ≤ 0 then gapF a c b else gapF c a b)
noncomputable def canF (a b c : UInt64) : Bool := if cmpF a b ≤ 0 then ins3 a b c else ins3 b a c
theorem cmpF_le {x y : Dir} (hx : x ∈ dirs) (hy : y ∈ dirs) : cmpF x.h y.h ≤ 0 ↔ x.n ≤ y.n := by
  unfold cmpF
  rw [hue_cmp hx hy]
  rcases Nat.lt_trichotomy x.n y.n with h | h | h
  · rw [Nat.compare_eq_lt.mpr h]; simp; lia
  · rw [h]; simp
  · rw [Nat.compare_eq_gt.mpr h]; simp; omega
theorem maxB_lt {x y z : UInt64} (hx : Fin' x) (hy : Fin' y) (hz : Fin' z) : (Float64.cmp (maxB x y z) cHalf == some .lt) = decide (val x < val cHalf ∧ val y < val cHalf ∧ val z < val cHalf) := by
  have hc := fv_half.fin
  unfold maxB
  rw [hx.lt hy]
  by_cases h1 : val x < val y
  · simp only [h1, decide_true, if_true]
    rw [hy.lt hz]
    by_cases h2 : val y < val z
    · simp only [h2, decide_true, if_true]
      rw [hz.lt hc, decide_eq_decide]; omega
    · simp only [h2, decide_false, Bool.false_eq_true, if_false]
      rw [hy.lt hc, decide_eq_decide]; omega
  · simp only [h1, decide_false, Bool.false_eq_true, if_false]
    rw [hx.lt hz]
    by_cases h2 : val x < val z
    · simp only [h2, decide_true, if_true]
      rw [hz.lt hc, decide_eq_decide]; omega
    · simp only [h2, decide_false, Bool.false_eq_true, if_false]
      rw [hx.lt hc, decide_eq_decide]; omega
theorem gapF_iff {x y z : Dir} (hx : x ∈ dirs) (hy : y ∈ dirs) (hz : z ∈ dirs) (h1 : x.n ≤ y.n) (h2 : y.n ≤ z.n) : gapF x.h y.h z.h = true ↔ y.n ≤ x.n + 2520 ∧ z.n ≤ y.n + 2520 ∧ x.n + 2520 ≤ z.n := by
  obtain ⟨f1, g1⟩ := hue_gap hx hy h1
  obtain ⟨f2, g2⟩ := hue_gap hy hz h2
  obtain ⟨f3, g3⟩ := hue_gap1 hx hz
  unfold gapF
  rw [maxB_lt f1 f2 f3, decide_eq_true_eq, g1, g2, g3]
theorem bal_sw {a b c : Nat} (h : ((Ah a c ∧ Ah c b ∧ Ah b a) ∨ (Ah c a ∧ Ah b c ∧ Ah a b)) ∨ Op a c ∨ Op c b ∨ Op b a) : ((Ah b c ∧ Ah c a ∧ Ah a b) ∨ (Ah c b ∧ Ah a c ∧ Ah b a)) ∨ Op b c ∨ Op c a ∨ Op a b := by
  rcases h with (⟨h1, h2, h3⟩ | ⟨h1, h2, h3⟩) | h | h | h
  · exact .inl (.inr ⟨h2, h1, h3⟩)
  · exact .inl (.inl ⟨h2, h1, h3⟩)
  · exact .inr (.inr (.inl (Or.symm h)))
  · exact .inr (.inl (Or.symm h))
  · exact .inr (.inr (.inr (Or.symm h)))
theorem bal_cy {a b c : Nat} (h : ((Ah b c ∧ Ah c a ∧ Ah a b) ∨ (Ah c b ∧ Ah a c ∧ Ah b a)) ∨ Op b c ∨ Op c a ∨ Op a b) : ((Ah c a ∧ Ah a b ∧ Ah b c) ∨ (Ah a c ∧ Ah b a ∧ Ah c b)) ∨ Op c a ∨ Op a b ∨ Op b c := by
  rcases h with (⟨h1, h2, h3⟩ | ⟨h1, h2, h3⟩) | h | h | h
  · exact .inl (.inl ⟨h2, h3, h1⟩)
  · exact .inl (.inr ⟨h2, h3, h1⟩)
  · exact .inr (.inr (.inr h))
  · exact .inr (.inl h)
  · exact .inr (.inr (.inl h))
theorem bal_sorted {p q r : Nat} (h1 : p ≤ q) (h2 : q ≤ r) (hr : r < 5040) : (q ≤ p + 2520 ∧ r ≤ q + 2520 ∧ p + 2520 ≤ r) ↔ ((Ah q r ∧ Ah r p ∧ Ah p q) ∨ (Ah r q ∧ Ah p r ∧ Ah q p)) ∨ Op q r ∨ Op r p ∨ Op p q := by
  constructor
  · rintro ⟨g1, g2, g3⟩
    by_cases e1 : q = p + 2520
    · exact .inr (.inr (.inr (.inr e1)))
    by_cases e2 : r = q + 2520
    · exact .inr (.inl (.inr e2))
    by_cases e3 : r = p + 2520
    · exact .inr (.inr (.inl (.inl e3)))
    · exact .inl (.inl ⟨.inl ⟨by lia, by lia⟩, .inr (by lia), .inl ⟨by lia, by lia⟩⟩)
  · unfold Ah Op
    rintro ((⟨g1, g2, g3⟩ | ⟨g1, g2, g3⟩) | g | g | g)
    · have g3 : q < p + 2520 := by lia
      have g1 : r < q + 2520 := by lia
      have g2 : p + 2520 < r := by lia
      exact ⟨by lia, by lia, by lia⟩
    · exfalso
      rcases g3 with g3 | g3
      · lia
      rcases g1 with g1 | g1
      · lia
      · lia
    · have g : r = q + 2520 := by lia
      exact ⟨by lia, by lia, by lia⟩
    · have g : r = p + 2520 := by lia
      exact ⟨by lia, by lia, by lia⟩
    · have g : q = p + 2520 := by lia
      exact ⟨by lia, by lia, by lia⟩
theorem ins3_iff {x y z : Dir} (hx : x ∈ dirs) (hy : y ∈ dirs) (hz : z ∈ dirs) (h : x.n ≤ y.n) :
    ins3 x.h y.h z.h = true ↔ ((Ah y.n z.n ∧ Ah z.n x.n ∧ Ah x.n y.n) ∨ (Ah z.n y.n ∧ Ah x.n z.n ∧ Ah y.n x.n)) ∨ Op y.n z.n ∨ Op z.n x.n ∨ Op x.n y.n := by
  unfold ins3
  by_cases c1 : x.n ≤ z.n
  · rw [if_pos ((cmpF_le hx hz).mpr c1)]
    by_cases c2 : y.n ≤ z.n
    · rw [if_pos ((cmpF_le hy hz).mpr c2), gapF_iff hx hy hz h c2]
      exact bal_sorted h c2 (row_of hz).lt
    · have c3 := Nat.le_of_lt (Nat.lt_of_not_le c2)
      rw [if_neg (fun q => c2 ((cmpF_le hy hz).mp q)), gapF_iff hx hz hy c1 c3]
      exact (bal_sorted c1 c3 (row_of hy).lt).trans ⟨fun q => bal_sw (bal_cy (bal_cy q)), fun q => bal_cy (bal_sw q)⟩
  · have c3 := Nat.le_of_lt (Nat.lt_of_not_le c1)
    rw [if_neg (fun q => c1 ((cmpF_le hx hz).mp q)), if_neg (fun q => c1 (Nat.le_trans h ((cmpF_le hy hz).mp q))), gapF_iff hz hx hy c3 h]
    exact (bal_sorted c3 h (row_of hy).lt).trans ⟨fun q => bal_cy q, fun q => bal_cy (bal_cy q)⟩
theorem canF_iff {x y z : Dir} (hx : x ∈ dirs) (hy : y ∈ dirs) (hz : z ∈ dirs) :
    canF x.h y.h z.h = true ↔ ((Ah y.n z.n ∧ Ah z.n x.n ∧ Ah x.n y.n) ∨ (Ah z.n y.n ∧ Ah x.n z.n ∧ Ah y.n x.n)) ∨ Op y.n z.n ∨ Op z.n x.n ∨ Op x.n y.n := by
  unfold canF
  by_cases c : x.n ≤ y.n
  · rw [if_pos ((cmpF_le hx hy).mpr c)]; exact ins3_iff hx hy hz c
  · rw [if_neg (fun q => c ((cmpF_le hx hy).mp q)), ins3_iff hy hx hz (by lia)]
    exact ⟨bal_sw, bal_sw⟩
/-- the three hues and satisfactions of `can`, whole -/
noncomputable def zeroS (s : UInt64) : Bool := Float64.cmp s 0 == some .eq
noncomputable def canB (a b c d e f x y z : Int) : Bool := zeroS (satF a b c) || zeroS (satF d e f) || zeroS (satF x y z) || canF (hueF a b c) (hueF d e f) (hueF x y z)
noncomputable def In8 (a b c : Int) : Prop := (0 ≤ a ∧ a ≤ 8) ∧ (0 ≤ b ∧ b ≤ 8) ∧ (0 ≤ c ∧ c ≤ 8)
theorem zeroS_iff {a b c : Int} (h : In8 a b c) : zeroS (satF a b c) = true ↔ (a = b ∧ b = c) := by
  constructor
  · intro q
    rcases Classical.em (a = b ∧ b = c) with n | n
    · exact n
    · have := sat_hue h.1 h.2.1 h.2.2 n
      unfold zeroS at q; rw [this] at q; cases q
  · rintro ⟨rfl, rfl⟩
    rw [sat_grey]; decide +kernel
theorem can_plain {a b c d e f x y z : Int} (h1 : In8 a b c) (h2 : In8 d e f) (h3 : In8 x y z) : canB a b c d e f x y z = true ↔ PlainP a b c d e f x y z := by
  unfold canB PlainP
  simp only [Bool.or_eq_true, zeroS_iff h1, zeroS_iff h2, zeroS_iff h3]
  by_cases g1 : a = b ∧ b = c
  · simp [g1]
  by_cases g2 : d = e ∧ e = f
  · simp [g2]
  by_cases g3 : x = y ∧ y = z
  · simp [g3]
  obtain ⟨X, hX⟩ := has_of h1.1 h1.2.1 h1.2.2 g1
  obtain ⟨Y, hY⟩ := has_of h2.1 h2.2.1 h2.2.2 g2
  obtain ⟨Z, hZ⟩ := has_of h3.1 h3.2.1 h3.2.2 g3
  have hp := plain_has hX hY hZ
  rw [hX.2.1, hY.2.1, hZ.2.1, canF_iff hX.1 hY.1 hZ.1, ← hp]
  simp only [g1, g2, g3, false_or, or_false]
end Mine
end
section
open PySem
namespace Mine
/-- parts told by the plane: all spans of one sign (or none) -/
theorem one_sign {a b c d e f x y z : Int} (h : PlainP a b c d e f x y z) :
    (0 ≤ spanZ d e f x y z ∧ 0 ≤ spanZ x y z a b c ∧ 0 ≤ spanZ a b c d e f) ∨ (spanZ d e f x y z ≤ 0 ∧ spanZ x y z a b c ≤ 0 ∧ spanZ a b c d e f ≤ 0) := by
  have opp : ∀ (a b c d e f x y z : Int), OppZ d e f x y z → spanZ d e f x y z = 0 ∧ ((0 ≤ spanZ x y z a b c ∧ 0 ≤ spanZ a b c d e f) ∨ (spanZ x y z a b c ≤ 0 ∧ spanZ a b c d e f ≤ 0)) := by
    intro a b c d e f x y z ⟨h0, h1⟩
    refine ⟨h0, ?_⟩
    have hq : 0 < (d - f) * (d - f) + (e - f) * (e - f) := by
      have q1 : 0 ≤ (d - f) * (d - f) := by rcases Int.le_total 0 (d - f) with h | h; exact Int.mul_nonneg h h; exact Int.mul_nonneg_of_nonpos_of_nonpos h h
      have q2 : 0 ≤ (e - f) * (e - f) := by rcases Int.le_total 0 (e - f) with h | h; exact Int.mul_nonneg h h; exact Int.mul_nonneg_of_nonpos_of_nonpos h h
      rcases Classical.em (d - f = 0) with u | u
      · rcases Classical.em (e - f = 0) with v | v
        · rw [u, v] at h1; simp at h1
        · have : (e - f) * (e - f) ≠ 0 := fun q => v (by rcases Int.mul_eq_zero.mp q with q | q <;> exact q)
          (first | lia | omega)
      · have : (d - f) * (d - f) ≠ 0 := fun q => u (by rcases Int.mul_eq_zero.mp q with q | q <;> exact q)
        (first | lia | omega)
    have key : spanZ x y z a b c * ((d - f) * (d - f) + (e - f) * (e - f)) = spanZ a b c d e f * (-((d - f) * (x - z) + (e - f) * (y - z))) := by
      unfold spanZ at *; grind
    generalize (d - f) * (d - f) + (e - f) * (e - f) = q at *
    have hr : 0 < -((d - f) * (x - z) + (e - f) * (y - z)) := by (first | lia | omega)
    generalize -((d - f) * (x - z) + (e - f) * (y - z)) = r at *
    rcases Int.le_total 0 (spanZ a b c d e f) with h | h
    · refine .inl ⟨?_, h⟩
      have := Int.mul_nonneg h (Int.le_of_lt hr)
      rw [← key] at this
      rcases Int.lt_or_le (spanZ x y z a b c) 0 with g | g
      · have := Int.mul_neg_of_neg_of_pos g hq; (first | lia | omega)
      · exact g
    · refine .inr ⟨?_, h⟩
      have := Int.mul_nonpos_of_nonpos_of_nonneg h (Int.le_of_lt hr)
      rw [← key] at this
      rcases Int.lt_or_le 0 (spanZ x y z a b c) with g | g
      · have := Int.mul_pos g hq; (first | lia | omega)
      · exact g
  rcases h with h | h | h | h | h | h | h
  · rcases h with ⟨h1, h2, h3⟩ | ⟨h1, h2, h3⟩
    · exact .inl ⟨Int.le_of_lt h1, Int.le_of_lt h2, Int.le_of_lt h3⟩
    · exact .inr ⟨Int.le_of_lt h1, Int.le_of_lt h2, Int.le_of_lt h3⟩
  · obtain ⟨e, ⟨p, q⟩ | ⟨p, q⟩⟩ := opp a b c d e f x y z h
    · exact .inl ⟨Int.le_of_eq e.symm, p, q⟩
    · exact .inr ⟨Int.le_of_eq e, p, q⟩
  · obtain ⟨e, ⟨p, q⟩ | ⟨p, q⟩⟩ := opp d e f x y z a b c h
    · exact .inl ⟨q, Int.le_of_eq e.symm, p⟩
    · exact .inr ⟨q, Int.le_of_eq e, p⟩
  · obtain ⟨e, ⟨p, q⟩ | ⟨p, q⟩⟩ := opp x y z a b c d e f h
    · exact .inl ⟨p, q, Int.le_of_eq e.symm⟩
    · exact .inr ⟨p, q, Int.le_of_eq e⟩
  · have e1 : spanZ x y z a b c = 0 := by unfold spanZ; rw [h.1, h.2]; simp
    have e2 : spanZ a b c d e f = 0 := by unfold spanZ; rw [h.1, h.2]; simp
    rcases Int.le_total 0 (spanZ d e f x y z) with g | g
    · exact .inl ⟨g, Int.le_of_eq e1.symm, Int.le_of_eq e2.symm⟩
    · exact .inr ⟨g, Int.le_of_eq e1, Int.le_of_eq e2⟩
  · have e1 : spanZ d e f x y z = 0 := by unfold spanZ; rw [h.1, h.2]; simp
    have e2 : spanZ a b c d e f = 0 := by unfold spanZ; rw [h.1, h.2]; simp
    rcases Int.le_total 0 (spanZ x y z a b c) with g | g
    · exact .inl ⟨Int.le_of_eq e1.symm, g, Int.le_of_eq e2.symm⟩
    · exact .inr ⟨Int.le_of_eq e1, g, Int.le_of_eq e2⟩
  · have e1 : spanZ x y z a b c = 0 := by unfold spanZ; rw [h.1, h.2]; simp
    have e2 : spanZ d e f x y z = 0 := by unfold spanZ; rw [h.1, h.2]; simp
    rcases Int.le_total 0 (spanZ a b c d e f) with g | g
    · exact .inl ⟨Int.le_of_eq e2.symm, Int.le_of_eq e1.symm, g⟩
    · exact .inr ⟨Int.le_of_eq e2, Int.le_of_eq e1, g⟩
theorem mix_grey {a b c d e f x y z : Int} (h : PlainP a b c d e f x y z) {n1 n2 n3 : Int} (h1 : n1 = (spanZ d e f x y z).natAbs) (h2 : n2 = (spanZ x y z a b c).natAbs) (h3 : n3 = (spanZ a b c d e f).natAbs) :
    n3 * x + (n2 * d + (n1 * a + 0)) = n3 * y + (n2 * e + (n1 * b + 0)) ∧ n3 * y + (n2 * e + (n1 * b + 0)) = n3 * z + (n2 * f + (n1 * c + 0)) := by
  have i1 : spanZ a b c d e f * x + (spanZ x y z a b c * d + (spanZ d e f x y z * a + 0)) = spanZ a b c d e f * y + (spanZ x y z a b c * e + (spanZ d e f x y z * b + 0)) := by unfold spanZ; grind
  have i2 : spanZ a b c d e f * y + (spanZ x y z a b c * e + (spanZ d e f x y z * b + 0)) = spanZ a b c d e f * z + (spanZ x y z a b c * f + (spanZ d e f x y z * c + 0)) := by unfold spanZ; grind
  rcases one_sign h with h | h
  · have e1 : n1 = spanZ d e f x y z := by (first | lia | omega)
    have e2 : n2 = spanZ x y z a b c := by (first | lia | omega)
    have e3 : n3 = spanZ a b c d e f := by (first | lia | omega)
    rw [e1, e2, e3]; exact ⟨i1, i2⟩
  · have e1 : n1 = -spanZ d e f x y z := by (first | lia | omega)
    have e2 : n2 = -spanZ x y z a b c := by (first | lia | omega)
    have e3 : n3 = -spanZ a b c d e f := by (first | lia | omega)
    rw [e1, e2, e3]; constructor <;> grind
theorem mul_64 {u v : Int} (hu : -8 ≤ u ∧ u ≤ 8) (hv : -8 ≤ v ∧ v ≤ 8) : -64 ≤ u * v ∧ u * v ≤ 64 := by
  have h1 : (u * v).natAbs ≤ 8 * 8 := by rw [Int.natAbs_mul]; exact Nat.mul_le_mul (by (first | lia | omega)) (by (first | lia | omega))
  (first | lia | omega)
theorem span_128 {a b c d e f : Int} (h1 : In8 a b c) (h2 : In8 d e f) : -128 ≤ spanZ a b c d e f ∧ spanZ a b c d e f ≤ 128 := by
  unfold In8 at h1 h2
  have q1 := @mul_64 (a - c) (e - f) (by (first | lia | omega)) (by (first | lia | omega))
  have q2 := @mul_64 (b - c) (d - f) (by (first | lia | omega)) (by (first | lia | omega))
  unfold spanZ; omega
/-- codes in balance -/
noncomputable def Bal (x y z : Nat) : Prop := ((Ah y z ∧ Ah z x ∧ Ah x y) ∨ (Ah z y ∧ Ah x z ∧ Ah y x)) ∨ Op y z ∨ Op z x ∨ Op x y
noncomputable def Dc (m n : Nat) : Nat := min ((m - n) + (n - m)) (5040 - ((m - n) + (n - m)))
theorem ah_lt {m n m' n' : Nat} (am : m < 5040) (an : n < 5040) (hm : m' = m ∨ m' = m + 5040) (hn : n' = n ∨ n' = n + 5040) (h1 : m' < n' + 2520) (h2 : n' < m' + 2520) (h : Ah m n) : m' < n' := by
  unfold Ah at h
  rcases h with h | h <;> rcases hm with rfl | rfl <;> rcases hn with rfl | rfl <;> (first | lia | omega)
theorem op_no {m n m' n' : Nat} (hm : m' = m ∨ m' = m + 5040) (hn : n' = n ∨ n' = n + 5040) (h1 : m' < n' + 2520) (h2 : n' < m' + 2520) (h : Op m n) : False := by
  unfold Op at h
  rcases h with h | h <;> rcases hm with rfl | rfl <;> rcases hn with rfl | rfl <;> (first | lia | omega)
/-- three codes in an arc below a half are not in balance -/
theorem bal_arc {lo a b c a' b' c' : Nat} (aa : a < 5040) (ab : b < 5040) (ac : c < 5040) (ha : (a' = a ∨ a' = a + 5040) ∧ lo ≤ a' ∧ a' < lo + 2520) (hb : (b' = b ∨ b' = b + 5040) ∧ lo ≤ b' ∧ b' < lo + 2520) (hc : (c' = c ∨ c' = c + 5040) ∧ lo ≤ c' ∧ c' < lo + 2520) : ¬ Bal a b c := by
  have near : ∀ {m n : Nat}, lo ≤ m → n < lo + 2520 → n < m + 2520 := fun h1 h2 => by (first | lia | omega)
  rintro ((⟨h1, h2, h3⟩ | ⟨h1, h2, h3⟩) | h | h | h)
  · exact Nat.lt_irrefl _ (Nat.lt_trans (Nat.lt_trans (ah_lt ab ac hb.1 hc.1 (near hc.2.1 hb.2.2) (near hb.2.1 hc.2.2) h1) (ah_lt ac aa hc.1 ha.1 (near ha.2.1 hc.2.2) (near hc.2.1 ha.2.2) h2)) (ah_lt aa ab ha.1 hb.1 (near hb.2.1 ha.2.2) (near ha.2.1 hb.2.2) h3))
  · exact Nat.lt_irrefl _ (Nat.lt_trans (Nat.lt_trans (ah_lt ac ab hc.1 hb.1 (near hb.2.1 hc.2.2) (near hc.2.1 hb.2.2) h1) (ah_lt ab aa hb.1 ha.1 (near ha.2.1 hb.2.2) (near hb.2.1 ha.2.2) h3)) (ah_lt aa ac ha.1 hc.1 (near hc.2.1 ha.2.2) (near ha.2.1 hc.2.2) h2))
  · exact op_no hb.1 hc.1 (near hc.2.1 hb.2.2) (near hb.2.1 hc.2.2) h
  · exact op_no hc.1 ha.1 (near ha.2.1 hc.2.2) (near hc.2.1 ha.2.2) h
  · exact op_no ha.1 hb.1 (near hb.2.1 ha.2.2) (near ha.2.1 hb.2.2) h
theorem bal_perm1 {x y z : Nat} (h : Bal x y z) : Bal y z x := by
  rcases h with (⟨h1, h2, h3⟩ | ⟨h1, h2, h3⟩) | h | h | h
  · exact .inl (.inl ⟨h2, h3, h1⟩)
  · exact .inl (.inr ⟨h2, h3, h1⟩)
  · exact .inr (.inr (.inr h))
  · exact .inr (.inl h)
  · exact .inr (.inr (.inl h))
theorem bal_perm2 {x y z : Nat} (h : Bal x y z) : Bal y x z := by
  rcases h with (⟨h1, h2, h3⟩ | ⟨h1, h2, h3⟩) | h | h | h
  · exact .inl (.inr ⟨h2, h1, h3⟩)
  · exact .inl (.inl ⟨h2, h1, h3⟩)
  · exact .inr (.inr (.inl (Or.symm h)))
  · exact .inr (.inl (Or.symm h))
  · exact .inr (.inr (.inr (Or.symm h)))
theorem Dc_comm (m n : Nat) : Dc m n = Dc n m := by unfold Dc; rw [Nat.add_comm]
theorem Dc_le {m n : Nat} (h : m ≤ n) : Dc m n = min (n - m) (5040 - (n - m)) := by unfold Dc; rw [Nat.sub_eq_zero_of_le h, Nat.zero_add]
theorem min_or {a b c : Nat} (h : min a b ≤ c) : a ≤ c ∨ b ≤ c := by
  rcases Nat.le_total a b with q | q
  · rw [Nat.min_eq_left q] at h; exact .inl h
  · rw [Nat.min_eq_right q] at h; exact .inr h
theorem Dc_or {m n d : Nat} (h : m ≤ n) (e : Dc m n ≤ d) : n - m ≤ d ∨ 5040 - (n - m) ≤ d := by
  rw [Dc_le h] at e; exact min_or e
theorem Dc_add {m a d : Nat} (e : Dc m (m + a) ≤ d) : a ≤ d ∨ 5040 ≤ a + d := by
  have h := Dc_or (Nat.le_add_right m a) e
  rw [Nat.add_sub_cancel_left] at h
  exact h.imp id fun q => by rw [Nat.add_comm]; exact Nat.le_add_of_sub_le q
theorem arc_lt {z a d : Nat} (hy : z + a + d < 5040) (hs : d < 2520) (g : 0 < a) (k : a ≤ d ∨ 5040 ≤ a + d) (k' : a + d ≤ d ∨ 5040 ≤ (a + d) + d) (n2 : ¬ (Ah (z + a + d) z ∧ Ah z (z + a) ∧ Ah (z + a) (z + a + d))) : False := by
  rcases k' with k' | k'
  · lia
  rcases k with k | k
  · clear hy
    exact n2 ⟨.inr (by lia), .inl ⟨by lia, by lia⟩, .inl ⟨by lia, by lia⟩⟩
  · lia
theorem arc_gt {x b d : Nat} (hz : x + d + b < 5040) (hs : d < 2520) (g : 0 < b) (k : d + b ≤ d ∨ 5040 ≤ (d + b) + d) (k' : b ≤ d ∨ 5040 ≤ b + d) (n2 : ¬ (Ah (x + d) (x + d + b) ∧ Ah (x + d + b) x ∧ Ah x (x + d))) : False := by
  rcases k with k | k
  · lia
  rcases k' with k' | k'
  · clear hz
    exact n2 ⟨.inl ⟨by lia, by lia⟩, .inr (by lia), .inl ⟨by lia, by lia⟩⟩
  · lia
theorem arc_in {x u v : Nat} (hy : x + u + v < 5040) (hs : 2520 < u + v) (g : 0 < u) (g' : 0 < v) (k : u ≤ 5040 - (u + v) ∨ 5040 ≤ u + (5040 - (u + v))) (k' : v ≤ 5040 - (u + v) ∨ 5040 ≤ v + (5040 - (u + v))) (n3 : ¬ (Ah (x + u) (x + u + v) ∧ Ah x (x + u) ∧ Ah (x + u + v) x)) : False := by
  rcases k with k | k
  · rcases k' with k' | k'
    · exact n3 ⟨.inl ⟨by lia, by lia⟩, .inl ⟨by lia, by lia⟩, .inr (by lia)⟩
    · lia
  · lia
theorem dest_lt {a b : Nat} (h : a < b) : ∃ c, 0 < c ∧ b = a + c := ⟨b - a, Nat.sub_pos_of_lt h, (Nat.add_sub_cancel' (Nat.le_of_lt h)).symm⟩
/-- a third off the short arc is in balance -/
theorem arc_le {x y z : Nat} (h : x ≤ y) (hy : y < 5040) (hz : z < 5040) (e1 : Dc z x ≤ Dc x y) (e2 : Dc z y ≤ Dc x y) (hB : ¬ Bal x y z) : (y - x < 2520 → x ≤ z ∧ z ≤ y) ∧ y - x ≠ 2520 ∧ (2520 < y - x → z ≤ x ∨ y ≤ z) := by
  obtain ⟨d, rfl⟩ := Nat.le.dest h
  rw [Dc_le h] at e1 e2
  rw [Nat.add_sub_cancel_left] at *
  have n1 : d ≠ 2520 := fun e => hB (.inr (.inr (.inr (.inr (by rw [e])))))
  have n2 : ¬ (Ah (x + d) z ∧ Ah z x ∧ Ah x (x + d)) := fun q => hB (.inl (.inl q))
  have n3 : ¬ (Ah z (x + d) ∧ Ah x z ∧ Ah (x + d) x) := fun q => hB (.inl (.inr q))
  clear hB h
  refine ⟨fun hs => ?_, n1, fun hs => ?_⟩
  · rw [Nat.min_eq_left (by lia)] at e1 e2
    rcases Nat.lt_or_ge z x with g | g
    · obtain ⟨a, ha, rfl⟩ := dest_lt g
      exact (arc_lt hy hs ha (Dc_add e1) (Dc_add (by rw [← Nat.add_assoc]; exact e2)) n2).elim
    rcases Nat.lt_or_ge (x + d) z with g' | g'
    · obtain ⟨b, hb, rfl⟩ := dest_lt g'
      rw [Dc_comm] at e1 e2
      exact (arc_gt hz hs hb (Dc_add (by rw [← Nat.add_assoc]; exact e1)) (Dc_add e2) n2).elim
    · exact ⟨g, g'⟩
  · rw [Nat.min_eq_right (by lia)] at e1 e2
    rcases Nat.lt_or_ge x z with g | g
    · rcases Nat.lt_or_ge z (x + d) with g' | g'
      · obtain ⟨u, hu, rfl⟩ := dest_lt g
        obtain ⟨v, hv, e⟩ := dest_lt g'
        have e' : d = u + v := Nat.add_left_cancel (n := x) (by rw [e, Nat.add_assoc])
        subst e'
        rw [← Nat.add_assoc] at e2 n3 hy
        rw [Dc_comm] at e1
        exact (arc_in hy hs hu hv (Dc_add e1) (Dc_add e2) n3).elim
      · exact .inr g'
    · exact .inl g
theorem bal_le {x y a b c : Nat} (h : x ≤ y) (hy : y < 5040) (ha : a < 5040) (hb : b < 5040) (hc : c < 5040) (B : Bal a b c)
    (d1 : Dc a x ≤ Dc x y) (d2 : Dc a y ≤ Dc x y) (d3 : Dc b x ≤ Dc x y) (d4 : Dc b y ≤ Dc x y) (d5 : Dc c x ≤ Dc x y) (d6 : Dc c y ≤ Dc x y) : Bal x y a ∨ Bal x y b ∨ Bal x y c := by
  by_cases h1 : Bal x y a
  · exact .inl h1
  by_cases h2 : Bal x y b
  · exact .inr (.inl h2)
  by_cases h3 : Bal x y c
  · exact .inr (.inr h3)
  exfalso
  have a1 := arc_le h hy ha d1 d2 h1
  have a2 := arc_le h hy hb d3 d4 h2
  have a3 := arc_le h hy hc d5 d6 h3
  clear h1 h2 h3 d1 d2 d3 d4 d5 d6
  rcases Nat.lt_or_ge (y - x) 2520 with g | g
  · have key : ∀ {z : Nat}, x ≤ z ∧ z ≤ y → (z = z ∨ z = z + 5040) ∧ x ≤ z ∧ z < x + 2520 := fun q => ⟨.inl rfl, q.1, by (first | lia | omega)⟩
    exact bal_arc ha hb hc (key (a1.1 g)) (key (a2.1 g)) (key (a3.1 g)) B
  · have g' : 2520 < y - x := Nat.lt_of_le_of_ne g (Ne.symm a1.2.1)
    have key : ∀ {z : Nat}, z < 5040 → z ≤ x ∨ y ≤ z → ∃ z', (z' = z ∨ z' = z + 5040) ∧ y ≤ z' ∧ z' < y + 2520 := fun hz q => by
      rcases q with q | q
      · exact ⟨_, .inr rfl, by (first | lia | omega), by omega⟩
      · exact ⟨_, .inl rfl, q, by omega⟩
    obtain ⟨_, k1⟩ := key ha (a1.2.2 g')
    obtain ⟨_, k2⟩ := key hb (a2.2.2 g')
    obtain ⟨_, k3⟩ := key hc (a3.2.2 g')
    exact bal_arc ha hb hc k1 k2 k3 B
theorem bal_core {x y a b c : Nat} (hx : x < 5040) (hy : y < 5040) (ha : a < 5040) (hb : b < 5040) (hc : c < 5040) (B : Bal a b c)
    (d1 : Dc a x ≤ Dc x y) (d2 : Dc a y ≤ Dc x y) (d3 : Dc b x ≤ Dc x y) (d4 : Dc b y ≤ Dc x y) (d5 : Dc c x ≤ Dc x y) (d6 : Dc c y ≤ Dc x y) : Bal x y a ∨ Bal x y b ∨ Bal x y c := by
  rcases Nat.le_total x y with h | h
  · exact bal_le h hy ha hb hc B d1 d2 d3 d4 d5 d6
  · rw [Dc_comm x y] at d1 d2 d3 d4 d5 d6
    exact (bal_le h hx ha hb hc B d2 d1 d4 d3 d6 d5).imp bal_perm2 (Or.imp bal_perm2 bal_perm2)
theorem has_max {α : Type} (f : α → Nat) : ∀ (l : List α), l ≠ [] → ∃ m ∈ l, ∀ x ∈ l, f x ≤ f m
  | [], h => absurd rfl h
  | [a], _ => ⟨a, .head _, fun x hx => by rw [List.mem_singleton.mp hx]; exact Nat.le_refl _⟩
  | a :: b :: r, _ => by
    obtain ⟨m, hm, h⟩ := has_max f (b :: r) (by simp)
    by_cases c : f m ≤ f a
    · exact ⟨a, .head _, fun x hx => by rcases List.mem_cons.mp hx with e | e; exact e ▸ Nat.le_refl _; exact Nat.le_trans (h x e) c⟩
    · exact ⟨m, .tail _ hm, fun x hx => by rcases List.mem_cons.mp hx with e | e; exact e ▸ (by (first | lia | omega)); exact h x e⟩
theorem barany_codes (P Q R : Fin 3 → Nat) (hP : ∀ i, P i < 5040) (hQ : ∀ i, Q i < 5040) (hR : ∀ i, R i < 5040) (bP : Bal (P 0) (P 1) (P 2)) (bQ : Bal (Q 0) (Q 1) (Q 2)) (bR : Bal (R 0) (R 1) (R 2)) :
    ∃ i j k, Bal (P i) (Q j) (R k) := by
  obtain ⟨⟨i1, j1⟩, -, m1⟩ := has_max (fun q : Fin 3 × Fin 3 => Dc (P q.1) (Q q.2)) [(0,0),(0,1),(0,2),(1,0),(1,1),(1,2),(2,0),(2,1),(2,2)] (by simp)
  obtain ⟨⟨i2, j2⟩, -, m2⟩ := has_max (fun q : Fin 3 × Fin 3 => Dc (Q q.1) (R q.2)) [(0,0),(0,1),(0,2),(1,0),(1,1),(1,2),(2,0),(2,1),(2,2)] (by simp)
  obtain ⟨⟨i3, j3⟩, -, m3⟩ := has_max (fun q : Fin 3 × Fin 3 => Dc (R q.1) (P q.2)) [(0,0),(0,1),(0,2),(1,0),(1,1),(1,2),(2,0),(2,1),(2,2)] (by simp)
  have full : ∀ i j : Fin 3, (i, j) ∈ [((0 : Fin 3), (0 : Fin 3)),(0,1),(0,2),(1,0),(1,1),(1,2),(2,0),(2,1),(2,2)] := by decide
  have M1 : ∀ i j, Dc (P i) (Q j) ≤ Dc (P i1) (Q j1) := fun i j => m1 (i, j) (full i j)
  have M2 : ∀ i j, Dc (Q i) (R j) ≤ Dc (Q i2) (R j2) := fun i j => m2 (i, j) (full i j)
  have M3 : ∀ i j, Dc (R i) (P j) ≤ Dc (R i3) (P j3) := fun i j => m3 (i, j) (full i j)
  clear m1 m2 m3 full
  have go : ∀ (A B C : Fin 3 → Nat) (i j : Fin 3), (∀ i, A i < 5040) → (∀ i, B i < 5040) → (∀ i, C i < 5040) → Bal (C 0) (C 1) (C 2) → (∀ k, Dc (C k) (A i) ≤ Dc (A i) (B j)) → (∀ k, Dc (C k) (B j) ≤ Dc (A i) (B j)) → ∃ i j k, Bal (A i) (B j) (C k) := by
    intro A B C i j hA hB hC bC d1 d2
    rcases bal_core (hA i) (hB j) (hC 0) (hC 1) (hC 2) bC (d1 0) (d2 0) (d1 1) (d2 1) (d1 2) (d2 2) with h | h | h
    · exact ⟨i, j, 0, h⟩
    · exact ⟨i, j, 1, h⟩
    · exact ⟨i, j, 2, h⟩
  by_cases c1 : Dc (Q i2) (R j2) ≤ Dc (P i1) (Q j1) ∧ Dc (R i3) (P j3) ≤ Dc (P i1) (Q j1)
  · exact go P Q R i1 j1 hP hQ hR bR (fun k => Nat.le_trans (M3 k i1) c1.2) (fun k => by rw [Dc_comm]; exact Nat.le_trans (M2 j1 k) c1.1)
  by_cases c2 : Dc (P i1) (Q j1) ≤ Dc (Q i2) (R j2) ∧ Dc (R i3) (P j3) ≤ Dc (Q i2) (R j2)
  · obtain ⟨i, j, k, h⟩ := go Q R P i2 j2 hQ hR hP bP (fun k => Nat.le_trans (M1 k i2) c2.1) (fun k => by rw [Dc_comm]; exact Nat.le_trans (M3 j2 k) c2.2)
    exact ⟨k, i, j, bal_perm1 (bal_perm1 h)⟩
  · obtain ⟨i, j, k, h⟩ := go R P Q i3 j3 hR hP hQ bQ (fun k => Nat.le_trans (M2 k i3) (by (first | lia | omega))) (fun k => by rw [Dc_comm]; exact Nat.le_trans (M1 j3 k) (by (first | lia | omega)))
    exact ⟨j, k, i, bal_perm1 h⟩
end Mine
end
section
open PySem
namespace Mine
/-- three paints that come to a grey, none a grey itself: their codes are in balance -/
theorem pot_bal {a b c d e f x y z : Int} (g1 : a + d + x = b + e + y) (g2 : b + e + y = c + f + z) {X Y Z : Dir} (hx : Has a b c X) (hy : Has d e f Y) (hz : Has x y z Z) (n1 : ¬ (a = b ∧ b = c)) : Bal X.n Y.n Z.n := by
  refine (plain_has hx hy hz).mp ?_
  have e1 : spanZ d e f x y z = spanZ a b c d e f := by
    have h1 : x - z = -(a - c) - (d - f) := by omega
    have h2 : y - z = -(b - c) - (e - f) := by omega
    unfold spanZ; rw [h1, h2]; grind
  have e2 : spanZ x y z a b c = spanZ a b c d e f := by
    have h1 : x - z = -(a - c) - (d - f) := by omega
    have h2 : y - z = -(b - c) - (e - f) := by omega
    unfold spanZ; rw [h1, h2]; grind
  rcases Int.lt_trichotomy 0 (spanZ a b c d e f) with h | h | h
  · left; unfold SameZ; omega
  · right
    have hd : ((a - c) * (d - f) + (b - c) * (e - f)) + ((x - z) * (a - c) + (y - z) * (b - c)) = -((a - c) * (a - c) + (b - c) * (b - c)) := by
      have h1 : x - z = -(a - c) - (d - f) := by omega
      have h2 : y - z = -(b - c) - (e - f) := by omega
      rw [h1, h2]; grind
    have hp : 0 < (a - c) * (a - c) + (b - c) * (b - c) := by
      have q : ∀ u : Int, 0 ≤ u * u := fun u => by rcases Int.le_total 0 u with h | h; exact Int.mul_nonneg h h; exact Int.mul_nonneg_of_nonpos_of_nonpos h h
      have q' : ∀ u : Int, u ≠ 0 → u * u ≠ 0 := fun u hu q => hu (by rcases Int.mul_eq_zero.mp q with q | q <;> exact q)
      have q1 := q (a - c)
      have q2 := q (b - c)
      rcases Classical.em (a - c = 0) with u | u
      · have := q' (b - c) (by lia)
        omega
      · have := q' _ u
        omega
    unfold OppZ
    rcases Int.lt_or_le ((a - c) * (d - f) + (b - c) * (e - f)) 0 with k | k
    · right; right; exact ⟨h.symm, k⟩
    · right; left; exact ⟨e2.trans h.symm, by omega⟩
  · left; unfold SameZ; omega
structure Pt where
  r : Int
  g : Int
  b : Int
noncomputable def Pt.in8 (p : Pt) : Prop := In8 p.r p.g p.b
noncomputable def Pl (x y z : Pt) : Prop := PlainP x.r x.g x.b y.r y.g y.b z.r z.g z.b
noncomputable def canPt (x y z : Pt) : Bool := canB x.r x.g x.b y.r y.g y.b z.r z.g z.b
noncomputable def GreySum (x y z : Pt) : Prop := x.r + y.r + z.r = x.g + y.g + z.g ∧ x.g + y.g + z.g = x.b + y.b + z.b
theorem canPt_iff {x y z : Pt} (hx : x.in8) (hy : y.in8) (hz : z.in8) : canPt x y z = true ↔ Pl x y z := can_plain hx hy hz
theorem barany (P Q R : Fin 3 → Pt) (hP : ∀ i, (P i).in8) (hQ : ∀ i, (Q i).in8) (hR : ∀ i, (R i).in8) (gP : GreySum (P 0) (P 1) (P 2)) (gQ : GreySum (Q 0) (Q 1) (Q 2)) (gR : GreySum (R 0) (R 1) (R 2)) :
    ∃ i j k, Pl (P i) (Q j) (R k) := by
  by_cases nP : ∃ i, (P i).r = (P i).g ∧ (P i).g = (P i).b
  · obtain ⟨i, h⟩ := nP
    exact ⟨i, 0, 0, .inr (.inr (.inr (.inr (.inl h))))⟩
  by_cases nQ : ∃ i, (Q i).r = (Q i).g ∧ (Q i).g = (Q i).b
  · obtain ⟨i, h⟩ := nQ
    exact ⟨0, i, 0, .inr (.inr (.inr (.inr (.inr (.inl h)))))⟩
  by_cases nR : ∃ i, (R i).r = (R i).g ∧ (R i).g = (R i).b
  · obtain ⟨i, h⟩ := nR
    exact ⟨0, 0, i, .inr (.inr (.inr (.inr (.inr (.inr h)))))⟩
  have go : ∀ (P : Fin 3 → Pt), (∀ i, (P i).in8) → (¬ ∃ i, (P i).r = (P i).g ∧ (P i).g = (P i).b) → ∃ D : Fin 3 → Dir, ∀ i, Has (P i).r (P i).g (P i).b (D i) := fun P hP nP =>
    ⟨fun i => Classical.choose (has_of (hP i).1 (hP i).2.1 (hP i).2.2 fun q => nP ⟨i, q⟩), fun i => Classical.choose_spec (has_of (hP i).1 (hP i).2.1 (hP i).2.2 fun q => nP ⟨i, q⟩)⟩
  obtain ⟨X, hX⟩ := go P hP nP
  obtain ⟨Y, hY⟩ := go Q hQ nQ
  obtain ⟨Z, hZ⟩ := go R hR nR
  obtain ⟨i, j, k, h⟩ := barany_codes (fun i => (X i).n) (fun i => (Y i).n) (fun i => (Z i).n) (fun i => (row_of (hX i).1).lt) (fun i => (row_of (hY i).1).lt) (fun i => (row_of (hZ i).1).lt)
    (pot_bal gP.1 gP.2 (hX 0) (hX 1) (hX 2) fun q => nP ⟨0, q⟩) (pot_bal gQ.1 gQ.2 (hY 0) (hY 1) (hY 2) fun q => nQ ⟨0, q⟩) (pot_bal gR.1 gR.2 (hZ 0) (hZ 1) (hZ 2) fun q => nR ⟨0, q⟩)
  refine ⟨i, j, k, ?_⟩
  have := (plain_has (hX i) (hY j) (hZ k)).mpr h
  unfold Pl PlainP
  rcases this with h | h | h | h
  · exact .inl h
  · exact .inr (.inl h)
  · exact .inr (.inr (.inl h))
  · exact .inr (.inr (.inr (.inl h)))
/-- a pot: two drawn paints, and the third that lacks what they lack -/
noncomputable def third (p q : Pt) : Pt := ⟨mx3 (p.r + q.r) (p.g + q.g) (p.b + q.b) - (p.r + q.r), mx3 (p.r + q.r) (p.g + q.g) (p.b + q.b) - (p.g + q.g), mx3 (p.r + q.r) (p.g + q.g) (p.b + q.b) - (p.b + q.b)⟩
noncomputable def In4 (p : Pt) : Prop := (0 ≤ p.r ∧ p.r ≤ 4) ∧ (0 ≤ p.g ∧ p.g ≤ 4) ∧ (0 ≤ p.b ∧ p.b ≤ 4)
noncomputable def potF (p q : Pt) (i : Fin 3) : Pt := match i with | 0 => p | 1 => q | 2 => third p q
theorem potF_in {p q : Pt} (hp : In4 p) (hq : In4 q) : ∀ i, (potF p q i).in8 := by
  unfold In4 at hp hq
  intro i
  have : i = 0 ∨ i = 1 ∨ i = 2 := by lia
  rcases this with rfl | rfl | rfl
  · show In8 p.r p.g p.b; unfold In8; omega
  · show In8 q.r q.g q.b; unfold In8; omega
  · show In8 (third p q).r (third p q).g (third p q).b; unfold In8 third mx3; dsimp only; omega
theorem potF_grey (p q : Pt) : GreySum (potF p q 0) (potF p q 1) (potF p q 2) := by
  show p.r + q.r + (mx3 _ _ _ - _) = p.g + q.g + (mx3 _ _ _ - _) ∧ p.g + q.g + (mx3 _ _ _ - _) = p.b + q.b + (mx3 _ _ _ - _)
  lia
end Mine
end
open PySem PySem.W PyProof.Rows
noncomputable section
namespace Mine
section
/-- all of tl off all of news -/
noncomputable def NeAll (a : Addr) : List (Addr × Obj) → Prop
  | [] => True
  | p :: r => a ≠ p.1 ∧ NeAll a r
noncomputable def NeAlls : List (Addr × Obj) → List (Addr × Obj) → Prop
  | [], _ => True
  | p :: r, l => NeAll p.1 l ∧ NeAlls r l
theorem NeAll.of {a : Addr} : ∀ {l : List (Addr × Obj)}, (∀ q ∈ l, a ≠ q.1) → NeAll a l
  | [], _ => trivial
  | _ :: _, h => ⟨h _ (.head _), NeAll.of fun q hq => h q (.tail _ hq)⟩
theorem neCell0 {L : Addr} {l : List (Addr × Obj)} (h : ∀ q ∈ l, q.1 < L) : NeAll (L + 1) l := NeAll.of fun q hq => Nat.ne_of_gt (Nat.lt_succ_of_lt (h q hq))
theorem neCell1 {L : Addr} {l : List (Addr × Obj)} (h : ∀ q ∈ l, q.1 < L) : NeAll (L + 1 + 1) l := NeAll.of fun q hq => Nat.ne_of_gt (Nat.lt_succ_of_lt (Nat.lt_succ_of_lt (h q hq)))
theorem NeAlls.of : ∀ {tl l : List (Addr × Obj)}, (∀ p ∈ tl, ∀ q ∈ l, p.1 ≠ q.1) → NeAlls tl l
  | [], _, _ => trivial
  | _ :: _, _, h => ⟨NeAll.of (h _ (.head _)), NeAlls.of fun p hp => h p (.tail _ hp)⟩
theorem tell_use {lv : Nat} {w : World} {mean mg mb f sub args Post} {dp un : Nat} {gd : Option (List Code)} {cn : Str} {cs : Scope} {a : Addr} {ccd : Value} {cl : List (Str × Addr)} {outer : List Env} {A₀ : Around} {base h₀ : Heap} {L : Addr} {m : Str → Option Value} {s : Shared} {news : List (Addr × Obj)}
    {Q E : Value → Shared → Prop} (C : Tell lv w mean mg mb f sub args Post)
    (B : Below A₀ base outer h₀) (F : Fr h₀ L s.heap m) (X : (Mine.hd.heap_1 w.params).In h₀) (N : News h₀ L s.heap news) (T : Top VW LO mean mg mb h₀) (hk : cs.kind = .function) (hd : dp + 2 * lv < recursionLimit) (hu : un + 20 * lv < cLine) (hs : SubL sub news)
    (ret : ∀ r tl h' tk', Post tl r → Kept s.heap h' → Fr h₀ L h' m → News h₀ L h' (tl ++ news) → NeAlls tl news → Q r { s with heap := h', toks := tk' }) :
    wpAny (model PySem.Challenge.rw_pg0251_01.row.prog w) (ktrTop dp un gd cn cs L a ccd cl outer) (call (.ref f) args) Q E s :=
  C dp un gd cn cs a ccd cl outer A₀ base h₀ L m s Q E B F X (fun p hp => N p (hs.mem p hp)) T hk hd hu fun r tl h' tk' k n p =>
    let b := tell_back F N k n
    ret r tl h' tk' p k b.1 b.2.1 (NeAlls.of b.2.2)
theorem tell_fin2 {s : Shared} {sub : List (Addr × Obj)} {Post : List (Addr × Obj) → Value → Prop} {Q : Value → Shared → Prop} {r : Value} {tk' : Nat} {g h' : Heap} {L' : Addr} {m' : Str → Option Value} {all : List (Addr × Obj)}
    (hret : ∀ r tl h' tk', Kept s.heap h' → NewIn s.heap h' tl → Post tl r → Q r { s with heap := h', toks := tk' })
    (hg : AllBut sub s.heap g) (F : Fr g L' h' m') (N : News g L' h' all) {h₀ : Heap} {L : Addr} (hN : News h₀ L s.heap sub) (hs : SubL sub all) {tl : List (Addr × Obj)} (hp : Post tl r) (ht : SubL tl all) (hne : ∀ q ∈ tl, ∀ r ∈ sub, q.1 ≠ r.1) :
    Q r { s with heap := h', toks := tk' } := tell_fin hret hg F N hN hs tl ht hne hp
/-- a statement cut off: it returns True where P, goes on else; nothing that stood is turned -/
inductive JQ (h₀ : Heap) (L : Addr) (m : Str → Option Value) (news : List (Addr × Obj)) (s : Shared) (P : Prop) : Flow → Shared → Prop
  | yes {h' : Heap} {tk : Nat} (F : Fr h₀ L h' m) (N : News h₀ L h' news) (p : P) : JQ h₀ L m news s P (.ret (.bool true)) { s with heap := h', toks := tk }
  | no {h' : Heap} {tk : Nat} (F : Fr h₀ L h' m) (N : News h₀ L h' news) (p : ¬ P) : JQ h₀ L m news s P .next { s with heap := h', toks := tk }
theorem cut_stmt {M : Model} {A : Around} {t : Sem Flow} {E : Value → Shared → Prop} {s : Shared} {Q : Flow → Shared → Prop} {h₀ L m news} (P : Prop) (walk : wpAny M A t (JQ h₀ L m news s P) E s)
    (c1 : P → ∀ h' tk, Fr h₀ L h' m → News h₀ L h' news → Q (.ret (.bool true)) { s with heap := h', toks := tk })
    (c2 : ¬ P → ∀ h' tk, Fr h₀ L h' m → News h₀ L h' news → Q .next { s with heap := h', toks := tk }) : wpAny M A t Q E s := by
  refine wpAny_mono walk (fun fl s' j => ?_) fun _ _ e => e
  cases j with
  | yes F N p => exact c1 p _ _ F N
  | no F N p => exact c2 p _ _ F N
@[reducible] noncomputable def tup3 (a b c : Int) (t u v : Tok) : Obj := { cls := .type "tuple", data := .seq #[.int a t, .int b u, .int c v] 0 }
theorem cut_opp {M : Model} {A : Around} {t : Sem Flow} {E : Value → Shared → Prop} {s : Shared} {Q : Flow → Shared → Prop} {h₀ L m news} {x y : Str} {p q : Addr} {a b c d e f : Int} {t1 t2 t3 t4 t5 t6 : Tok}
    (F : Fr h₀ L s.heap m) (N : News h₀ L s.heap news) (h1 : m x = some (.ref p)) (h2 : m y = some (.ref q)) (e1 : (p, tup3 a b c t1 t2 t3) ∈ news) (e2 : (q, tup3 d e f t4 t5 t6) ∈ news)
    (walk : wpAny M A t (JQ h₀ L m news s (OppZ a b c d e f)) E s)
    (c1 : OppZ a b c d e f → ∀ h' tk, Fr h₀ L h' m → News h₀ L h' news → Q (.ret (.bool true)) { s with heap := h', toks := tk })
    (c2 : ¬ OppZ a b c d e f → ∀ h' tk, Fr h₀ L h' m → News h₀ L h' news → Q .next { s with heap := h', toks := tk }) : wpAny M A t Q E s := cut_stmt _ walk c1 c2
theorem cut_same {M : Model} {A : Around} {t : Sem Flow} {E : Value → Shared → Prop} {s : Shared} {Q : Flow → Shared → Prop} {h₀ L m news} {x : Str} {p : Addr} {a b c : Int} {t1 t2 t3 : Tok} {k : Nat}
    (F : Fr h₀ L s.heap m) (N : News h₀ L s.heap news) (h1 : m x = some (.ref p)) (e1 : (p, ({ cls := .type "list", data := .seq #[.int a t1, .int b t2, .int c t3] k } : Obj)) ∈ news)
    (walk : wpAny M A t (JQ h₀ L m news s (SameZ a b c)) E s)
    (c1 : SameZ a b c → ∀ h' tk, Fr h₀ L h' m → News h₀ L h' news → Q (.ret (.bool true)) { s with heap := h', toks := tk })
    (c2 : ¬ SameZ a b c → ∀ h' tk, Fr h₀ L h' m → News h₀ L h' news → Q .next { s with heap := h', toks := tk }) : wpAny M A t Q E s := cut_stmt _ walk c1 c2
section
variable {prog : Program} {w : World} {A : Around} {E : Value → Shared → Prop} {s : Shared} {h₀ : Heap} {L l b : Addr} {m : Str → Option Value} {news : List (Addr × Obj)} {items : Array Value} {k kb : Nat}
theorem ne_nil {Q : Value → Shared → Prop} (N : News h₀ L s.heap news) (ma : (l, ({ cls := .type "list", data := .seq items k } : Obj)) ∈ news) (mb : (b, ({ cls := .type "list", data := .seq #[] kb } : Obj)) ∈ news) (hu : A.units < cLine)
    (h : Q (.bool (decide (items.size ≠ 0))) s) : wpAny (model prog w) A (compareOp .NotEq (.ref l) (.ref b)) Q E s := by
  by_cases hz : items.size = 0
  · have e : items = #[] := Array.eq_empty_of_size_eq_zero hz
    subst e
    refine PySem.EqBoolInt.of_rcne (SeqAt.RcNeAt.lists (e := fun _ => true) ⟨_, N.get ma, rfl, _, rfl⟩ ⟨_, N.get mb, rfl, _, rfl⟩ rfl hu (fun j h1 => absurd h1 (Nat.not_lt_zero j))) ?_
    simpa using h
  · refine PySem.EqBoolInt.of_rcne (SeqAt.RcNeAt.lists_lengths ⟨_, N.get ma, rfl, _, rfl⟩ ⟨_, N.get mb, rfl, _, rfl⟩ (by simpa using hz) hu) ?_
    simpa [hz] using h
theorem max3_list {x y z : Int} {t u v : Tok} {Q : Value → Shared → Prop} (hh : A.handled = none) (F : Fr h₀ L s.heap m) (N : News h₀ L s.heap news) (ma : (l, ({ cls := .type "list", data := .seq #[.int x t, .int y u, .int z v] k } : Obj)) ∈ news)
    (h : ∀ M tk' h' tk, Fr h₀ L h' m → News h₀ L h' news → x ≤ M → y ≤ M → z ≤ M → (M = x ∨ M = y ∨ M = z) → Q (.int M tk') { s with heap := h', toks := tk }) :
    wpAny (model prog w) A (call (.builtin "max") [.ref l]) Q E s :=
  max_list_N (vs := [.int x t, .int y u, .int z v]) (ns := [x, y, z]) hh F N ⟨_, N.get ma, rfl, _, rfl⟩ (.cons _ _ (.cons _ _ (.cons _ _ .nil))) (by simp) fun h' M t tk F' N' hm ha =>
    h M t h' tk F' N' (ha _ (by simp)) (ha _ (by simp)) (ha _ (by simp)) (by simpa using hm)
theorem min3_list {x y z : Int} {t u v : Tok} {Q : Value → Shared → Prop} (hh : A.handled = none) (F : Fr h₀ L s.heap m) (N : News h₀ L s.heap news) (ma : (l, ({ cls := .type "list", data := .seq #[.int x t, .int y u, .int z v] k } : Obj)) ∈ news)
    (h : ∀ M tk' h' tk, Fr h₀ L h' m → News h₀ L h' news → M ≤ x → M ≤ y → M ≤ z → (M = x ∨ M = y ∨ M = z) → Q (.int M tk') { s with heap := h', toks := tk }) :
    wpAny (model prog w) A (call (.builtin "min") [.ref l]) Q E s :=
  min_list_N (vs := [.int x t, .int y u, .int z v]) (ns := [x, y, z]) hh F N ⟨_, N.get ma, rfl, _, rfl⟩ (.cons _ _ (.cons _ _ (.cons _ _ .nil))) (by simp) fun h' M t tk F' N' hm ha =>
    h M t h' tk F' N' (ha _ (by simp)) (ha _ (by simp)) (ha _ (by simp)) (by simpa using hm)
end
theorem ite_split {c : Prop} {i : Decidable c} {a b : Prop} (h1 : c → a) (h2 : ¬ c → b) : @ite Prop (decide c = true) (instDecidableEqBool _ _) a b := by
  by_cases h : c
  · rw [if_pos (decide_eq_true h)]; exact h1 h
  · rw [if_neg (by rw [decide_eq_true_eq]; exact h)]; exact h2 h
/-- a fact kept out of the arithmetic's sight -/
inductive HidP (p : Prop) : Prop
  | mk (out : p)
theorem HidP.out {p : Prop} : HidP p → p | .mk h => h
theorem ite_splitH {c : Prop} {i : Decidable c} {a b : Prop} (h1 : HidP c → a) (h2 : HidP (¬ c) → b) : @ite Prop (decide c = true) (instDecidableEqBool _ _) a b := ite_split (fun h => h1 ⟨h⟩) fun h => h2 ⟨h⟩
theorem ite_splitE {x y : Int} {a b : Prop} (h1 : HidP (x = y) → a) (h2 : HidP (¬ x = y) → b) : if (x == y) = true then a else b := by
  by_cases h : x = y
  · rw [if_pos (by simpa using h)]; exact h1 ⟨h⟩
  · rw [if_neg (by simpa using h)]; exact h2 ⟨h⟩
theorem ltL {a b : Nat} (h : @LT.lt Nat _ a b) : a ≠ b := Nat.ne_of_lt h
theorem ltR {a b : Nat} (h : @LT.lt Nat _ b a) : a ≠ b := Nat.ne_of_gt h
theorem cj0 { p q : Prop} (h : p ∧ q) : p := h.1
theorem cj1 {x0 p q : Prop} (h : x0 ∧ p ∧ q) : p := h.2.1
theorem cl1 {x0 p : Prop} (h : x0 ∧ p) : p := h.2
theorem cj2 {x0 x1 p q : Prop} (h : x0 ∧ x1 ∧ p ∧ q) : p := h.2.2.1
theorem cl2 {x0 x1 p : Prop} (h : x0 ∧ x1 ∧ p) : p := h.2.2
theorem cj3 {x0 x1 x2 p q : Prop} (h : x0 ∧ x1 ∧ x2 ∧ p ∧ q) : p := h.2.2.2.1
theorem cl3 {x0 x1 x2 p : Prop} (h : x0 ∧ x1 ∧ x2 ∧ p) : p := h.2.2.2
theorem cj4 {x0 x1 x2 x3 p q : Prop} (h : x0 ∧ x1 ∧ x2 ∧ x3 ∧ p ∧ q) : p := h.2.2.2.2.1
theorem cl4 {x0 x1 x2 x3 p : Prop} (h : x0 ∧ x1 ∧ x2 ∧ x3 ∧ p) : p := h.2.2.2.2
theorem cj5 {x0 x1 x2 x3 x4 p q : Prop} (h : x0 ∧ x1 ∧ x2 ∧ x3 ∧ x4 ∧ p ∧ q) : p := h.2.2.2.2.2.1
theorem cl5 {x0 x1 x2 x3 x4 p : Prop} (h : x0 ∧ x1 ∧ x2 ∧ x3 ∧ x4 ∧ p) : p := h.2.2.2.2.2
theorem cj6 {x0 x1 x2 x3 x4 x5 p q : Prop} (h : x0 ∧ x1 ∧ x2 ∧ x3 ∧ x4 ∧ x5 ∧ p ∧ q) : p := h.2.2.2.2.2.2.1
theorem cl6 {x0 x1 x2 x3 x4 x5 p : Prop} (h : x0 ∧ x1 ∧ x2 ∧ x3 ∧ x4 ∧ x5 ∧ p) : p := h.2.2.2.2.2.2
theorem cj7 {x0 x1 x2 x3 x4 x5 x6 p q : Prop} (h : x0 ∧ x1 ∧ x2 ∧ x3 ∧ x4 ∧ x5 ∧ x6 ∧ p ∧ q) : p := h.2.2.2.2.2.2.2.1
theorem cl7 {x0 x1 x2 x3 x4 x5 x6 p : Prop} (h : x0 ∧ x1 ∧ x2 ∧ x3 ∧ x4 ∧ x5 ∧ x6 ∧ p) : p := h.2.2.2.2.2.2.2
theorem cj8 {x0 x1 x2 x3 x4 x5 x6 x7 p q : Prop} (h : x0 ∧ x1 ∧ x2 ∧ x3 ∧ x4 ∧ x5 ∧ x6 ∧ x7 ∧ p ∧ q) : p := h.2.2.2.2.2.2.2.2.1
theorem cl8 {x0 x1 x2 x3 x4 x5 x6 x7 p : Prop} (h : x0 ∧ x1 ∧ x2 ∧ x3 ∧ x4 ∧ x5 ∧ x6 ∧ x7 ∧ p) : p := h.2.2.2.2.2.2.2.2
theorem cj9 {x0 x1 x2 x3 x4 x5 x6 x7 x8 p q : Prop} (h : x0 ∧ x1 ∧ x2 ∧ x3 ∧ x4 ∧ x5 ∧ x6 ∧ x7 ∧ x8 ∧ p ∧ q) : p := h.2.2.2.2.2.2.2.2.2.1
theorem cl9 {x0 x1 x2 x3 x4 x5 x6 x7 x8 p : Prop} (h : x0 ∧ x1 ∧ x2 ∧ x3 ∧ x4 ∧ x5 ∧ x6 ∧ x7 ∧ x8 ∧ p) : p := h.2.2.2.2.2.2.2.2.2
theorem cj10 {x0 x1 x2 x3 x4 x5 x6 x7 x8 x9 p q : Prop} (h : x0 ∧ x1 ∧ x2 ∧ x3 ∧ x4 ∧ x5 ∧ x6 ∧ x7 ∧ x8 ∧ x9 ∧ p ∧ q) : p := h.2.2.2.2.2.2.2.2.2.2.1
theorem cl10 {x0 x1 x2 x3 x4 x5 x6 x7 x8 x9 p : Prop} (h : x0 ∧ x1 ∧ x2 ∧ x3 ∧ x4 ∧ x5 ∧ x6 ∧ x7 ∧ x8 ∧ x9 ∧ p) : p := h.2.2.2.2.2.2.2.2.2.2
theorem cj11 {x0 x1 x2 x3 x4 x5 x6 x7 x8 x9 x10 p q : Prop} (h : x0 ∧ x1 ∧ x2 ∧ x3 ∧ x4 ∧ x5 ∧ x6 ∧ x7 ∧ x8 ∧ x9 ∧ x10 ∧ p ∧ q) : p := h.2.2.2.2.2.2.2.2.2.2.2.1
theorem cl11 {x0 x1 x2 x3 x4 x5 x6 x7 x8 x9 x10 p : Prop} (h : x0 ∧ x1 ∧ x2 ∧ x3 ∧ x4 ∧ x5 ∧ x6 ∧ x7 ∧ x8 ∧ x9 ∧ x10 ∧ p) : p := h.2.2.2.2.2.2.2.2.2.2.2
theorem cj12 {x0 x1 x2 x3 x4 x5 x6 x7 x8 x9 x10 x11 p q : Prop} (h : x0 ∧ x1 ∧ x2 ∧ x3 ∧ x4 ∧ x5 ∧ x6 ∧ x7 ∧ x8 ∧ x9 ∧ x10 ∧ x11 ∧ p ∧ q) : p := h.2.2.2.2.2.2.2.2.2.2.2.2.1
theorem cl12 {x0 x1 x2 x3 x4 x5 x6 x7 x8 x9 x10 x11 p : Prop} (h : x0 ∧ x1 ∧ x2 ∧ x3 ∧ x4 ∧ x5 ∧ x6 ∧ x7 ∧ x8 ∧ x9 ∧ x10 ∧ x11 ∧ p) : p := h.2.2.2.2.2.2.2.2.2.2.2.2
theorem cj13 {x0 x1 x2 x3 x4 x5 x6 x7 x8 x9 x10 x11 x12 p q : Prop} (h : x0 ∧ x1 ∧ x2 ∧ x3 ∧ x4 ∧ x5 ∧ x6 ∧ x7 ∧ x8 ∧ x9 ∧ x10 ∧ x11 ∧ x12 ∧ p ∧ q) : p := h.2.2.2.2.2.2.2.2.2.2.2.2.2.1
theorem cl13 {x0 x1 x2 x3 x4 x5 x6 x7 x8 x9 x10 x11 x12 p : Prop} (h : x0 ∧ x1 ∧ x2 ∧ x3 ∧ x4 ∧ x5 ∧ x6 ∧ x7 ∧ x8 ∧ x9 ∧ x10 ∧ x11 ∧ x12 ∧ p) : p := h.2.2.2.2.2.2.2.2.2.2.2.2.2
theorem cj14 {x0 x1 x2 x3 x4 x5 x6 x7 x8 x9 x10 x11 x12 x13 p q : Prop} (h : x0 ∧ x1 ∧ x2 ∧ x3 ∧ x4 ∧ x5 ∧ x6 ∧ x7 ∧ x8 ∧ x9 ∧ x10 ∧ x11 ∧ x12 ∧ x13 ∧ p ∧ q) : p := h.2.2.2.2.2.2.2.2.2.2.2.2.2.2.1
theorem cl14 {x0 x1 x2 x3 x4 x5 x6 x7 x8 x9 x10 x11 x12 x13 p : Prop} (h : x0 ∧ x1 ∧ x2 ∧ x3 ∧ x4 ∧ x5 ∧ x6 ∧ x7 ∧ x8 ∧ x9 ∧ x10 ∧ x11 ∧ x12 ∧ x13 ∧ p) : p := h.2.2.2.2.2.2.2.2.2.2.2.2.2.2
theorem cj15 {x0 x1 x2 x3 x4 x5 x6 x7 x8 x9 x10 x11 x12 x13 x14 p q : Prop} (h : x0 ∧ x1 ∧ x2 ∧ x3 ∧ x4 ∧ x5 ∧ x6 ∧ x7 ∧ x8 ∧ x9 ∧ x10 ∧ x11 ∧ x12 ∧ x13 ∧ x14 ∧ p ∧ q) : p := h.2.2.2.2.2.2.2.2.2.2.2.2.2.2.2.1
theorem cl15 {x0 x1 x2 x3 x4 x5 x6 x7 x8 x9 x10 x11 x12 x13 x14 p : Prop} (h : x0 ∧ x1 ∧ x2 ∧ x3 ∧ x4 ∧ x5 ∧ x6 ∧ x7 ∧ x8 ∧ x9 ∧ x10 ∧ x11 ∧ x12 ∧ x13 ∧ x14 ∧ p) : p := h.2.2.2.2.2.2.2.2.2.2.2.2.2.2.2
theorem cj16 {x0 x1 x2 x3 x4 x5 x6 x7 x8 x9 x10 x11 x12 x13 x14 x15 p q : Prop} (h : x0 ∧ x1 ∧ x2 ∧ x3 ∧ x4 ∧ x5 ∧ x6 ∧ x7 ∧ x8 ∧ x9 ∧ x10 ∧ x11 ∧ x12 ∧ x13 ∧ x14 ∧ x15 ∧ p ∧ q) : p := h.2.2.2.2.2.2.2.2.2.2.2.2.2.2.2.2.1
theorem cl16 {x0 x1 x2 x3 x4 x5 x6 x7 x8 x9 x10 x11 x12 x13 x14 x15 p : Prop} (h : x0 ∧ x1 ∧ x2 ∧ x3 ∧ x4 ∧ x5 ∧ x6 ∧ x7 ∧ x8 ∧ x9 ∧ x10 ∧ x11 ∧ x12 ∧ x13 ∧ x14 ∧ x15 ∧ p) : p := h.2.2.2.2.2.2.2.2.2.2.2.2.2.2.2.2
theorem cj17 {x0 x1 x2 x3 x4 x5 x6 x7 x8 x9 x10 x11 x12 x13 x14 x15 x16 p q : Prop} (h : x0 ∧ x1 ∧ x2 ∧ x3 ∧ x4 ∧ x5 ∧ x6 ∧ x7 ∧ x8 ∧ x9 ∧ x10 ∧ x11 ∧ x12 ∧ x13 ∧ x14 ∧ x15 ∧ x16 ∧ p ∧ q) : p := h.2.2.2.2.2.2.2.2.2.2.2.2.2.2.2.2.2.1
theorem cl17 {x0 x1 x2 x3 x4 x5 x6 x7 x8 x9 x10 x11 x12 x13 x14 x15 x16 p : Prop} (h : x0 ∧ x1 ∧ x2 ∧ x3 ∧ x4 ∧ x5 ∧ x6 ∧ x7 ∧ x8 ∧ x9 ∧ x10 ∧ x11 ∧ x12 ∧ x13 ∧ x14 ∧ x15 ∧ x16 ∧ p) : p := h.2.2.2.2.2.2.2.2.2.2.2.2.2.2.2.2.2
theorem sameY1 {x y z M : Int} (h : HidP (M > 0)) (a : M ≤ x) (b : M ≤ y) (c : M ≤ z) : SameZ x y z := .inl ⟨by have := h.out; omega, by have := h.out; omega, by have := h.out; omega⟩
theorem sameY2 {x y z M : Int} (h : HidP (M < 0)) (a : x ≤ M) (b : y ≤ M) (c : z ≤ M) : SameZ x y z := .inr ⟨by have := h.out; omega, by have := h.out; omega, by have := h.out; omega⟩
theorem sameNo {x y z M N : Int} (h : HidP (¬ M > 0)) (h' : HidP (¬ N < 0)) (a : x ≤ N) (b : M ≤ x) (m : M = x ∨ M = y ∨ M = z) (n : N = x ∨ N = y ∨ N = z) : ¬ SameZ x y z := by
  have h1 := h.out
  have h2 := h'.out
  unfold SameZ; omega
end
section
section
variable {prog : Program} {w : World} {A₀ A : Around} {s : Shared} {base h₀ : Heap} {outer : List Env} {L : Addr} {m mg mb : Str → Option Value} {env : Env} {sub : List (Addr × Obj)} {K : Frag} {p : Program} {loose : List Str} {mean : ExcName → Option Value}
  {R : Result → Shared → Prop} {name qual : Str} {params : Arguments} {body : List Stmt} {scope : Scope} {dV kV doc pm cdv ct oc : Value} {an od : Option Addr} {osl : Array (Option Value)} {f : Addr} {args : Args} {binds : List (Str × Value)}
/-- code_tell for a def with cells -/
theorem code_tellC
    (B : Below A₀ base outer h₀) (F : Fr h₀ L s.heap m) (X₀ : K.In h₀) (N : News h₀ L s.heap sub) (T : Top p loose mean mg mb h₀) (hA : A.frames = some (env :: outer)) (hf : env.frame = some L) (hke : env.scope.kind = .function)
    (ho : K.lookup f = some ⟨oc, od, .func (fnOf name qual params body scope dV kV doc pm an cdv ct), osl⟩) (hcd : codeIn K cdv qual = true) (hroom : A.depth < recursionLimit)
    (hbind : BindsTo s (fnOf name qual params body scope dV kV doc pm an cdv ct) args binds) (hkind : (binds.all fun y => scope.names.lookup y.1 == some .local || scope.names.lookup y.1 == some .cell) = true)
    (hnd : ((cellsFrom 0 scope.names []).map (·.1)).Nodup)
    (h : ∀ g L' h₁ tk cells, AllBut sub s.heap g → Fr h₀ L g m → Fr g L' h₁ (bindL (envOfC qual scope L' f cdv).kindOf binds fun _ => none) → News g L' h₁ (cells ++ sub) →
      CellsAre (bindC (envOfC qual scope L' f cdv).kindOf binds fun _ => none) (cellsFrom (L' + 1) scope.names []) cells → Below A base (env :: outer) g → K.In g → Top p loose mean mg mb g → (∀ q ∈ sub, q.1 < L') →
      wpAny (model prog w) (A.deeper (envOfC qual scope L' f cdv)) (execs body (envOfC qual scope L' f cdv))
        (fun fl s' => LeaveK h₀ L m g R (match fl with | .ret v => v | _ => .none) s')
        (fun e s' => wpAny (model prog w) (A.deeper (envOfC qual scope L' f cdv)) (leaving (envOfC qual scope L' f cdv) e) (fun _ s'' => R (.error e) s'') (fun e' s'' => R (.error e') s'') s')
        { s with heap := h₁, toks := tk })
    (hco : scope.isCoroutine = false) (hgen : scope.isGenerator = false) (hk : scope.kind = .function) : codeAny (model prog w) A (.call (.ref f) args) R s := by
  obtain ⟨FG, BG, st, lv⟩ := groundX (R := R) B F N hA hf hke
  have hX : K.In s.heap := X₀.keeps F.keep
  refine codeAny_call_function hroom (hX _ _ ho) rfl hco hgen rfl (codeRec_of hX hcd) (hbind _ _ _ _ ?_)
  refine wpAny_newFunctionEnv_cells hk (kindsX hkind _) fun env' he s' x => ?_
  subst he
  refine ⟨(T.nolimit.keeps F.keep).keeps x.toInCall.keep, codeAny_func ?_⟩
  obtain ⟨h₁, tk, rfl, _⟩ := x.done
  have hk₁ := x.toInCall.keep
  obtain ⟨cells, NC, Y⟩ := Cl.news (h₀ := s.heap) (Nat.le_refl _) fun n c hm => ⟨x.cell n c (lookup_of_mem_nodup (cellsFrom_names scope.names 0 (s.heap.objs.size + 1) [] [] rfl ▸ hnd) hm), x.above n c hm⟩
  refine wpAny_mono (h _ s.heap.objs.size h₁ tk cells (fun b o e hb => hideAll_get _ e fun hm => ?_) FG ⟨x.toInCall.ns, fun b o e => hk₁ b o (of_hideAll _ e), Nat.le_of_eq (hideAll_size _ _)⟩ (fun p hp => ?_) Y BG (X₀.keeps st) (T.keeps st) (fun p hp => Heap.lt_size (N p hp).1)) (fun fl s' hl => lv _ _ hl) fun _ _ y => y
  · obtain ⟨q, hq, e'⟩ := List.mem_map.mp hm
    exact hb q hq e'
  rcases List.mem_append.mp hp with hp | hp
  · refine ⟨(NC p hp).1, (NC p hp).2.1, ?_⟩
    cases q : (hideAll s.heap (sub.map (·.1))).get? p.1 with
    | none => rfl
    | some o => have := of_hideAll _ q; rw [(NC p hp).2.2] at this; cases this
  · exact ⟨hk₁ _ _ (N p hp).1, Nat.ne_of_lt (Heap.lt_size (N p hp).1), hideAll_none _ (List.mem_map_of_mem hp)⟩
end
end
section
section
theorem plainAttrs_pat : PlainAttrs "re.Pattern" :=
  ⟨⟨"object.__getattribute__", by rw [typeLookup_type, builtinLookup_eq_fast]; kernel_rfl, by decide +kernel⟩, by rw [typeLookup_type, builtinLookup_eq_fast]; kernel_rfl⟩
theorem slot_pat_search : Slot "re.Pattern" "search" "re.Pattern.search" :=
  .of (owner := "re.Pattern") (n := "search") (by rw [typeLookup_type, builtinLookup_eq_fast]; kernel_rfl) (by decide +kernel) (by decide +kernel) (by decide +kernel)
    (by first | exact .inl (by decide +kernel) | exact .inr (by decide +kernel)) (by rw [isSubtype_type]; kernel_rfl)
theorem type_pat_search : typeOf (.builtin "re.Pattern.search") = pure (.type "method_descriptor") := by show builtinType _ = _; rw [builtinType_eq_fast]; kernel_rfl
theorem entry_pat_search : entryFor table "re.Pattern.search" = some Builtin.«re.Pattern.search» := entryFor_of_tree (by kernel_rfl)
theorem owner_pat : Manifest.owners.lookup (String.ofList ['n', 'r', 'e', 't', 't', 'a', 'P', '.', 'e', 'r'].reverse) = some Manifest.sig_re_Pattern := by kernel_rfl
theorem args_pat_search (a b : Value) : argsOk "re.Pattern.search" ⟨[a, b], []⟩ := by
  unfold argsOk; rw [signature?_of (id := "re.Pattern.search") (n := ['h', 'c', 'r', 'a', 'e', 's']) (o := ['n', 'r', 'e', 't', 't', 'a', 'P', '.', 'e', 'r']) (by kernel_rfl) owner_pat]; kernel_rfl
open Builtin.Re
theorem reNamed_two (v : Value) : reNamed "re.Pattern.search" "search" ["string", "pos", "endpos"] 1 [v] [] = pure [some v, none, none] := by rfl
/-- the machine's run on a text: it fails at the first turn -/
noncomputable def NoFind (code : List Nat) (t : Str) : Prop :=
  match ((Sre.forSearch code.toArray t.cps 0 (min 0 t.cps.size) (min (2 ^ 63 - 1) t.cps.size) false).runFor 4).outcome with
  | some .failed => True
  | _ => False
theorem rules_pass {M : Model} {A : Around} {E : Value → Shared → Prop} {s : Shared} {Q : Unit → Shared → Prop} (p : Nat → Bool) (f : Nat → String) (h : Q () s) : ∀ l : List Nat,
    wpAny M A (forIn l PUnit.unit fun i _ => if p i = true then do let _ ← rule (f i); pure (ForInStep.yield PUnit.unit) else pure (ForInStep.yield PUnit.unit)) Q E s
  | [] => by simp only [List.forIn_nil]; exact wpAny_pure h
  | i :: l => by
    simp only [List.forIn_cons]
    cases hp : p i with
    | true => 
      simp only [if_true]
      exact wpAny_bind (wpAny_bind (wpAny_rule (wpAny_pure (rules_pass p f h l))))
    | false =>
      simp only [Bool.false_eq_true, if_false]
      exact wpAny_bind (wpAny_pure (rules_pass p f h l))
theorem run_fails {M : Model} {A : Around} {E : Value → Shared → Prop} {s : Shared} {Q : Option Sre.M → Shared → Prop} {m : Sre.M} (hf : match (m.runFor 4).outcome with | some .failed => True | _ => False) (h : Q none s) :
    wpAny M A (reRunToEnd m) Q E s := by
  unfold reRunToEnd
  have hs : (m.runFor 4).outcome.isSome = true := by cases ho : (m.runFor 4).outcome with | none => rw [ho] at hf; exact hf.elim | some _ => rfl
  have e : reDrive (2 ^ 64) m = pure (m.runFor 4) := by
    show reDrive (18446744073709551615 + 1) m = _
    unfold reDrive
    exact if_pos hs
  rw [e]
  refine wpAny_bind (wpAny_pure ?_)
  refine wpAny_bind (rules_pass (fun i => (m.runFor 4).seen.has i) (fun i => Sre.names.getD i "") ?_ _)
  cases ho : (m.runFor 4).outcome with
  | none => rw [ho] at hf; exact hf.elim
  | some o =>
    rw [ho] at hf
    cases o with
    | failed => exact wpAny_pure h
    | matched => exact hf.elim
    | stuck _ => exact hf.elim
theorem pat_search {prog : Program} {w : World} {A : Around} {E : Value → Shared → Prop} {s : Shared} {Q : Value → Shared → Prop} {P T : Addr} {fs ws : Array Value} {n : Nat} {t : Str} {k : Tok} {code : List Nat}
    (hP : s.heap.get? P = some { cls := .type "re.Pattern", data := .fields fs }) (h5 : fs.getD 5 .none = .ref T) (h2 : reRawNat (fs.getD 2 .none) = 0) (h6 : reRawNat (fs.getD 6 .none) = 0)
    (hT : s.heap.get? T = some { cls := .type "tuple", data := .seq ws n }) (hc : (ws.map reRawOf).map (·.toNat) = code.toArray) (hf : NoFind code t) (h : Q .none s) :
    wpAny (model prog w) A (call (.builtin "re.Pattern.search") [.ref P, .str t k]) Q E s := by
  refine wpAny_call (codeAny_call_builtin slot_pat_search.plain entry_pat_search (slot_pat_search.check _ _ _ _ _ _ _ _ ⟨_, hP, rfl⟩ (args_pat_search _ _) ?_))
  show wpAny _ _ (do let t ← reTarget "re.Pattern.search" "search" ⟨[.ref P, .str t k], []⟩; reAnswer t (Sre.forSearch t.code t.text t.groups t.pos t.lim false)) _ _ _
  unfold reTarget
  simp only [reNamed_two]
  refine wpAny_bind ?_
  refine wpAny_bind (wpAny_pure ?_)
  dsimp only
  refine wpAny_bind (wpAny_pure ?_)
  refine wpAny_bind (wpAny_pure ?_)
  refine wpAny_bind (wpAny_fieldsOf hP rfl ?_)
  have et : reTextOf (.str t k) = pure (t.cps, 0) := by rfl
  rw [et]
  refine wpAny_bind (wpAny_pure ?_)
  rw [h6, if_neg (show ¬ ((0 == 0 && (0 : Nat) == 1) = true) by decide), if_neg (show ¬ ((0 == 1 && (0 : Nat) == 0) = true) by decide)]
  refine wpAny_bind (wpAny_pure ?_)
  rw [h5]
  refine wpAny_bind (m := reRawItems (.ref T)) ?_
  refine wpAny_bind (wpAny_seqItems hT rfl (wpAny_pure ?_))
  refine wpAny_pure ?_
  dsimp only
  unfold reAnswer
  have ec : ((some ws).getD #[]).map reRawOf = ws.map reRawOf := rfl
  rw [ec, hc, h2]
  exact wpAny_bind (run_fails hf (wpAny_pure h))
end
end
section
noncomputable def TellA (lv : Nat) (w : World) (mean : ExcName → Option Value) (mg mb : Str → Option Value) (f : Addr) (sub : List (Addr × Obj)) (args : List Value) (kw : List (Str × Value)) (Post : List (Addr × Obj) → Value → Prop) : Prop :=
  ∀ (dp un : Nat) (gd : Option (List Code)) (cn : Str) (cs : Scope) (a : Addr) (ccd : Value) (cl : List (Str × Addr)) (outer : List Env) (A₀ : Around) (base h₀ : Heap) (L : Addr) (m : Str → Option Value) (s : Shared)
    (Q E : Value → Shared → Prop),
    Below A₀ base outer h₀ → Fr h₀ L s.heap m → (Mine.hd.heap_1 w.params).In h₀ → News h₀ L s.heap sub → Top VW LO mean mg mb h₀ → cs.kind = .function → dp + 2 * lv < recursionLimit → un + 20 * lv < cLine →
    (∀ r tl h' tk', Kept s.heap h' → NewIn s.heap h' tl → Post tl r → Q r { s with heap := h', toks := tk' }) →
    codeAny (model PySem.Challenge.rw_pg0251_01.row.prog w) (ktrTop dp un gd cn cs L a ccd cl outer) (.call (.ref f) ⟨args, kw⟩) (fun r s' => match r with | .ok (.ret v) => Q v s' | .ok _ => False | .error e => E e s') s
theorem tell_ofA {lv w mean mg mb f sub args Post} (h : TellA lv w mean mg mb f sub args [] Post) : Tell lv w mean mg mb f sub args Post := fun dp un gd cn cs a ccd cl outer A₀ base h₀ L m s Q E B F X N T hk hd hu hr =>
  wpAny_call (h dp un gd cn cs a ccd cl outer A₀ base h₀ L m s Q E B F X N T hk hd hu hr)
theorem tell_useA {lv : Nat} {w : World} {mean mg mb f sub args kw Post} {dp un : Nat} {gd : Option (List Code)} {cn : Str} {cs : Scope} {a : Addr} {ccd : Value} {cl : List (Str × Addr)} {outer : List Env} {A₀ : Around} {base h₀ : Heap} {L : Addr} {m : Str → Option Value} {s : Shared} {news : List (Addr × Obj)}
    {Q E : Value → Shared → Prop} (C : TellA lv w mean mg mb f sub args kw Post)
    (B : Below A₀ base outer h₀) (F : Fr h₀ L s.heap m) (X : (Mine.hd.heap_1 w.params).In h₀) (N : News h₀ L s.heap news) (T : Top VW LO mean mg mb h₀) (hk : cs.kind = .function) (hd : dp + 2 * lv < recursionLimit) (hu : un + 20 * lv < cLine) (hs : SubL sub news)
    (ret : ∀ r tl h' tk', Post tl r → Kept s.heap h' → Fr h₀ L h' m → News h₀ L h' (tl ++ news) → NeAlls tl news → Q r { s with heap := h', toks := tk' }) :
    codeAny (model PySem.Challenge.rw_pg0251_01.row.prog w) (ktrTop dp un gd cn cs L a ccd cl outer) (.call (.ref f) ⟨args, kw⟩) (fun r s' => match r with | .ok (.ret v) => Q v s' | .ok _ => False | .error e => E e s') s :=
  C dp un gd cn cs a ccd cl outer A₀ base h₀ L m s Q E B F X (fun p hp => N p (hs.mem p hp)) T hk hd hu fun r tl h' tk' k n p =>
    let b := tell_back F N k n
    ret r tl h' tk' p k b.1 b.2.1 (NeAlls.of b.2.2)
noncomputable def codeNm : List Nat := [14, 10, 4, 1, 1, 22, 0, 31, 16, 127, 0, 13, 7, 22, 0, 31, 16, 127, 0, 1]
noncomputable def codeVl : List Nat := [14, 14, 4, 1, 1, 9, 4294966783, 0, 0, 2147483648, 0, 0, 0, 0, 0, 13, 11, 9, 4294966783, 0, 0, 2147483648, 0, 0, 0, 0, 0, 1]
section
variable {prog : Program} {w w' : World} {A : Around} {E : Value → Shared → Prop} {s : Shared} {h₀ : Heap} {L : Addr} {m : Str → Option Value}
theorem getMethod_search {M : Model} {P : Addr} {o : Obj} {fs : Array Value} {pl : Sem Bool} {Q : Value × List Value → Shared → Prop} (F : Fr h₀ L s.heap m) (X : (Mine.hd.heap_1 w.params).In h₀) (hl : (Mine.hd.heap_1 w.params).lookup P = some o) (ho : o = { cls := .type "re.Pattern", data := .fields fs })
    (h : Q (.builtin "re.Pattern.search", [.ref P]) s) : wpAny M A (getMethod (.ref P) "search" pl) Q E s :=
  have hP : s.heap.get? P = some { cls := .type "re.Pattern", data := .fields fs } := ho ▸ (X.keeps F.keep) _ _ hl
  getMethod_builtin (T := "re.Pattern") ⟨_, hP, rfl⟩ plainAttrs_pat slot_pat_search type_pat_search (fun a e => by cases e; exact ⟨_, hP, rfl⟩) h
theorem search_name {t : Str} {k : Tok} {Q : Value → Shared → Prop} (F : Fr h₀ L s.heap m) (X : (Mine.hd.heap_1 w.params).In h₀) (hf : NoFind codeNm t) (h : Q .none s) : wpAny (model prog w') A (call (.builtin "re.Pattern.search") [.ref 92, .str t k]) Q E s :=
  pat_search (code := codeNm) ((X.keeps F.keep) 92 _ rfl) rfl rfl rfl ((X.keeps F.keep) 91 _ rfl) (by decide +kernel) hf h
theorem search_value {t : Str} {k : Tok} {Q : Value → Shared → Prop} (F : Fr h₀ L s.heap m) (X : (Mine.hd.heap_1 w.params).In h₀) (hf : NoFind codeVl t) (h : Q .none s) : wpAny (model prog w') A (call (.builtin "re.Pattern.search") [.ref 97, .str t k]) Q E s :=
  pat_search (code := codeVl) ((X.keeps F.keep) 97 _ rfl) rfl rfl rfl ((X.keeps F.keep) 96 _ rfl) (by decide +kernel) hf h
end
/-- a call that turns one object -/
noncomputable def KeptBut (d : Addr) (h h' : Heap) : Prop := ∀ b o, b ≠ d → h.get? b = some o → h'.get? b = some o
noncomputable def TellM (lv : Nat) (w : World) (mean : ExcName → Option Value) (mg mb : Str → Option Value) (f : Addr) (d : Addr) (od : Obj) (sub : List (Addr × Obj)) (args : List Value) (kw : List (Str × Value)) (Post : Obj → List (Addr × Obj) → Value → Prop) : Prop :=
  ∀ (dp un : Nat) (gd : Option (List Code)) (cn : Str) (cs : Scope) (a : Addr) (ccd : Value) (cl : List (Str × Addr)) (outer : List Env) (A₀ : Around) (base h₀ : Heap) (L : Addr) (m : Str → Option Value) (s : Shared)
    (R : Result → Shared → Prop),
    Below A₀ base outer h₀ → Fr h₀ L s.heap m → (Mine.hd.heap_1 w.params).In h₀ → News h₀ L s.heap ((d, od) :: sub) → NeAll d sub → Top VW LO mean mg mb h₀ → cs.kind = .function → dp + 2 * lv < recursionLimit → un + 20 * lv < cLine →
    (∀ r o' tl h' tk', KeptBut d s.heap h' → h'.get? d = some o' → NewIn s.heap h' tl → Post o' tl r → R (.ok (.ret r)) { s with heap := h', toks := tk' }) →
    codeAny (model PySem.Challenge.rw_pg0251_01.row.prog w) (ktrTop dp un gd cn cs L a ccd cl outer) (.call (.ref f) ⟨args, kw⟩) R s
theorem tell_finM {s : Shared} {d : Addr} {od o' : Obj} {sub : List (Addr × Obj)} {Post : Obj → List (Addr × Obj) → Value → Prop} {R : Result → Shared → Prop} {r : Value} {tk' : Nat} {g h' : Heap} {L' : Addr} {m' : Str → Option Value} {all : List (Addr × Obj)}
    (hret : ∀ r o' tl h' tk', KeptBut d s.heap h' → h'.get? d = some o' → NewIn s.heap h' tl → Post o' tl r → R (.ok (.ret r)) { s with heap := h', toks := tk' })
    (hg : AllBut ((d, od) :: sub) s.heap g) (F : Fr g L' h' m') (N : News g L' h' all) {h₀ : Heap} {L : Addr} (hN : News h₀ L s.heap ((d, od) :: sub)) (hs : SubL sub all) (hd : (d, o') ∈ all) {tl : List (Addr × Obj)} (hp : Post o' tl r) (ht : SubL tl all) (hne : ∀ q ∈ tl, ∀ r ∈ (d, od) :: sub, q.1 ≠ r.1) :
    R (.ok (.ret r)) { s with heap := h', toks := tk' } := by
  refine hret r o' tl h' tk' (fun b o hb e => ?_) (N _ hd).1 (fun q hq => ⟨(N q (ht.mem q hq)).1, ?_⟩) hp
  · by_cases hx : ∃ q ∈ sub, q.1 = b
    · obtain ⟨q, hq, rfl⟩ := hx
      have := (hN q (.tail _ hq)).1
      rw [e] at this
      rw [Option.some.inj this]
      exact (N q (hs.mem q hq)).1
    · exact F.keep b o (hg b o e fun q hq e' => by
        rcases List.mem_cons.mp hq with rfl | hq
        · exact hb e'.symm
        · exact hx ⟨q, hq, e'⟩)
  · cases e : s.heap.get? q.1 with
    | none => rfl
    | some o =>
      have := hg q.1 o e fun r hr e' => hne q hq r hr e'.symm
      rw [(N q (ht.mem q hq)).2.2] at this
      cases this
theorem tell_useM {lv : Nat} {w : World} {mean mg mb f d od sub args kw Post} {dp un : Nat} {gd : Option (List Code)} {cn : Str} {cs : Scope} {a : Addr} {ccd : Value} {cl : List (Str × Addr)} {outer : List Env} {A₀ : Around} {base h₀ : Heap} {L : Addr} {m : Str → Option Value} {s : Shared} {news : List (Addr × Obj)}
    {R : Result → Shared → Prop} (C : TellM lv w mean mg mb f d od sub args kw Post)
    (B : Below A₀ base outer h₀) (F : Fr h₀ L s.heap m) (X : (Mine.hd.heap_1 w.params).In h₀) (N : News h₀ L s.heap ((d, od) :: news)) (hn : NeAll d news) (T : Top VW LO mean mg mb h₀) (hk : cs.kind = .function) (hd : dp + 2 * lv < recursionLimit) (hu : un + 20 * lv < cLine) (hs : SubL sub news)
    (ret : ∀ r o' tl h' tk', Post o' tl r → Fr h₀ L h' m → News h₀ L h' (tl ++ (d, o') :: news) → NeAlls tl ((d, o') :: news) → R (.ok (.ret r)) { s with heap := h', toks := tk' }) :
    codeAny (model PySem.Challenge.rw_pg0251_01.row.prog w) (ktrTop dp un gd cn cs L a ccd cl outer) (.call (.ref f) ⟨args, kw⟩) R s := by
  have hne : ∀ q ∈ news, d ≠ q.1 := by
    clear N ret hs
    induction news with
    | nil => intro q hq; cases hq
    | cons p r ih => intro q hq; rcases List.mem_cons.mp hq with rfl | hq; exact hn.1; exact ih hn.2 q hq
  have hd0 := N (d, od) (.head _)
  refine C dp un gd cn cs a ccd cl outer A₀ base h₀ L m s R B F X (fun p hp => ?_) (NeAll.of fun q hq => hne q (hs.mem q hq)) T hk hd hu fun r o' tl h' tk' k hd' n p => ?_
  · rcases List.mem_cons.mp hp with rfl | hp
    · exact hd0
    · exact N p (.tail _ (hs.mem p hp))
  have hL : L ≠ d := fun e => hd0.2.1 e.symm
  have F' : Fr h₀ L h' m := ⟨F.ns.at' fun o e => k L o hL e, fun b o e => k b o (fun q => by rw [q, hd0.2.2] at e; cases e) (F.keep b o e), F.above⟩
  refine ret r o' tl h' tk' p F' (fun q hq => ?_) (NeAlls.of fun q hq r' hr e => ?_)
  · rcases List.mem_append.mp hq with hq | hq
    · refine ⟨(n q hq).1, fun e => ?_, ?_⟩
      · obtain ⟨o, _, _, ho, _⟩ := F.ns
        have := (n q hq).2
        rw [e, ho] at this
        cases this
      · cases e : h₀.get? q.1 with
        | none => rfl
        | some o =>
          have := F.keep _ _ e
          rw [(n q hq).2] at this
          cases this
    · rcases List.mem_cons.mp hq with rfl | hq
      · exact ⟨hd', hd0.2⟩
      · exact ⟨k _ _ (hne q hq).symm (N q (.tail _ hq)).1, (N q (.tail _ hq)).2⟩
  · have h1 := (n q hq).2
    rcases List.mem_cons.mp hr with rfl | hr
    · rw [e, hd0.1] at h1; cases h1
    · rw [e, (N r' (.tail _ hr)).1] at h1; cases h1
end
section
/-- the items that the answers keep -/
noncomputable def selL : List Value → List Bool → List Value
  | v :: vs, b :: bs => if b then v :: selL vs bs else selL vs bs
  | _, _ => []
theorem selL_nil_iff : ∀ (vs : List Value) (bs : List Bool), vs.length = bs.length → (decide ((selL vs bs).length ≠ 0) = bs.any id)
  | [], [], _ => rfl
  | v :: vs, b :: bs, h => by
    cases b with
    | true => simp [selL]
    | false => simp only [selL, Bool.false_eq_true, if_false, List.any_cons, id, Bool.false_or]; exact selL_nil_iff vs bs (by simpa using h)
  | [], _ :: _, h => by simp at h
  | _ :: _, [], h => by simp at h
theorem selL_snoc : ∀ (vs : List Value) (bs : List Bool) (v : Value) (b : Bool), vs.length = bs.length → selL (vs ++ [v]) (bs ++ [b]) = selL vs bs ++ (if b then [v] else [])
  | [], [], v, b, _ => by cases b <;> rfl
  | x :: vs, c :: bs, v, b, h => by
    have ih := selL_snoc vs bs v b (by simpa using h)
    cases c with
    | true => show x :: selL (vs ++ [v]) (bs ++ [b]) = _; rw [ih]; rfl
    | false => show selL (vs ++ [v]) (bs ++ [b]) = _; rw [ih]; rfl
  | [], _ :: _, _, _, h => by simp at h
  | _ :: _, [], _, _, h => by simp at h
/-- one test's end in a filtering comprehension -/
noncomputable def TestEnd (h₀ : Heap) (L : Addr) (m : Str → Option Value) (news : List (Addr × Obj)) (s : Shared) (b ok : Bool) (s' : Shared) : Prop := ok = b ∧ ∃ h' tk', s' = { s with heap := h', toks := tk' } ∧ Fr h₀ L h' m ∧ News h₀ L h' news
theorem TestEnd.intro {h₀ : Heap} {L : Addr} {m : Str → Option Value} {news all : List (Addr × Obj)} {s : Shared} {b ok : Bool} {h' : Heap} {tk' : Nat} (e : ok = b) (F : Fr h₀ L h' m) (N : News h₀ L h' all) (hs : SubL news all) : TestEnd h₀ L m news s b ok { s with heap := h', toks := tk' } :=
  ⟨e, h', tk', rfl, F, fun p hp => N p (hs.mem p hp)⟩
section
variable {prog : Program} {w : World} {A : Around} {h₀ : Heap} {L : Addr} {m : Str → Option Value} {env : Env} {ct : Expr} {x : Str} {px : Pos} {scope : Scope} {cl : List (Str × Addr)} {s : Shared} {S : List (Addr × Obj) → Prop} {P : Nat → Value → Prop} {Fin : List Value → List (Addr × Obj) → Prop} {news : List (Addr × Obj)}
theorem flt_rest {items : List Value} {n : Nat} (bs : List Bool) (hlen : items.length = bs.length) (hn : n = items.length) (hP : ∀ (i : Nat) (v : Value), P i v → items[i]? = some v) (hS : S news)
    (hk : ∀ C, (compEnvC scope cl C env).scope.kind = .function) (hl : ∀ C, (compEnvC scope cl C env).kindOf x = some .local) (hd : (x == ("__debug__" : Str)) = false)
    (turn : ∀ (i : Nat) (v : Value) (b : Bool), items[i]? = some v → bs[i]? = some b → ∀ I oI C oC D m₂ ys h tk (E' : Value → Shared → Prop), LCg.NsObj oC m₂ → m₂ x = some v → Fr h₀ L h m → News h₀ L h ((I, oI) :: (C, oC) :: (D, LCg.lst ys) :: news) → LCg.Off3 I C D news → ((@Ne Nat I C) ∧ (@Ne Nat I D) ∧ (@Ne Nat C D)) →
      wpAny (model prog w) A (isTrue ct (compEnvC scope cl C env) (eval ct (compEnvC scope cl C env))) (TestEnd h₀ L m ((I, oI) :: (C, oC) :: (D, LCg.lst ys) :: news) { s with heap := h, toks := tk } b) E' { s with heap := h, toks := tk })
    (fin : Fin (selL items bs) news) : LCt.CompRestT prog w A h₀ L m env ct (.Name x px) x scope cl s S P Fin n 0 [] news := by
  have key : ∀ (j i : Nat), i + j = n → LCt.CompRestT prog w A h₀ L m env ct (.Name x px) x scope cl s S P Fin j i (selL (items.take i) (bs.take i)) news := by
    intro j
    induction j with
    | zero =>
      intro i hi
      refine LCt.CompRestT.zero ?_
      rw [List.take_of_length_le (by omega), List.take_of_length_le (by omega)]
      exact fin
    | succ j ih =>
      intro i hi
      refine LCt.CompRestT.succ ?_
      intro v I oI C oC D m₂ h tk E' hv hC hx F N off ne
      have hi' := hP i v hv
      have hib : i < bs.length := by omega
      have hs : selL (items.take (i + 1)) (bs.take (i + 1)) = selL (items.take i) (bs.take i) ++ (if bs[i] then [v] else []) := by
        rw [List.take_add_one, List.take_add_one, hi', List.getElem?_eq_getElem hib]
        exact selL_snoc _ _ _ _ (by rw [List.length_take, List.length_take, hlen])
      refine wpAny_mono (turn i v bs[i] hi' (List.getElem?_eq_getElem hib) I oI C oC D m₂ _ h tk E' hC hx F N off ne) (fun ok s₂ hq => ?_) fun _ _ e => e
      obtain ⟨rfl, h', tk', rfl, F', N'⟩ := hq
      have ih' := ih (i + 1) (by omega)
      rw [hs] at ih'
      cases hb : bs[i] with
      | true =>
        rw [hb] at ih'
        simp only [if_true]
        exact LCgL.ld_own N' (.tail _ (.head _)) hC hx (LCg.CompEnd.intro F' N' news (fun p hp => hp) off hS ih') (hk C) (hl C) hd
      | false =>
        rw [hb] at ih'
        simp only [Bool.false_eq_true, if_false, List.append_nil] at ih' ⊢
        exact LCg.CompEnd.intro F' N' news (fun p hp => hp) off hS ih'
  exact key n 0 (by omega)
end
end
section
section
variable {prog : Program} {w : World} {A : Around} {E : Value → Shared → Prop} {s : Shared} {h₀ : Heap} {L l : Addr} {m : Str → Option Value} {news : List (Addr × Obj)} {k : Nat}
theorem sub_lst {value slice : Expr} {items : List Value} {i : Int} {u : Tok} {x : Value} {Q : Value → Shared → Prop} (N : News h₀ L s.heap news) (ma : (l, ({ cls := .type "list", data := .seq items.toArray k } : Obj)) ∈ news)
    (h0 : 0 ≤ i) (h1 : i < 2 ^ 63) (hx : items[i.toNat]? = some x) (h : Q x s)
    (hs : subscripted slice false (.ref l) (.int i u) = operate [.ref l, .int i u] (getItem (.ref l) (.int i u)) := by with_unfolding_all rfl) :
    wpAny (model prog w) A (subscriptTail value slice (.ref l) (.int i u)) Q E s :=
  have hl : s.heap.IsList l items.toArray := ⟨_, N.get ma, rfl, _, rfl⟩
  tail_any hl.typeIs slot_list_getitem.lookup (wpAny_getItem_list hl h0 h1 (by simpa using hx) h) hs
theorem sub_tup {value slice : Expr} {items : List Value} {i : Int} {u : Tok} {x : Value} {Q : Value → Shared → Prop} (N : News h₀ L s.heap news) (ma : (l, ({ cls := .type "tuple", data := .seq items.toArray k } : Obj)) ∈ news)
    (h0 : 0 ≤ i) (h1 : i < 2 ^ 63) (hx : items[i.toNat]? = some x) (h : Q x s)
    (hs : subscripted slice false (.ref l) (.int i u) = operate [.ref l, .int i u] (getItem (.ref l) (.int i u)) := by with_unfolding_all rfl) :
    wpAny (model prog w) A (subscriptTail value slice (.ref l) (.int i u)) Q E s :=
  item_tupleT (j := i.toNat) (News.isTup N ma) (by omega) h1 (by
    have : i.toNat < items.length := by
      rcases Nat.lt_or_ge i.toNat items.length with q | q
      · exact q
      · rw [List.getElem?_eq_none q] at hx; cases hx
    unfold seqIndex?; simp only [if_neg (show ¬ i < 0 by omega)]; rw [if_pos (by simp only [Bool.and_eq_true, decide_eq_true_eq]; omega)]) hx h hs
theorem sub_any {value slice : Expr} {o : Obj} {items : List Value} {i : Int} {u : Tok} {x : Value} {Q : Value → Shared → Prop} (N : News h₀ L s.heap news) (ma : (l, o) ∈ news)
    (ho : (∃ k, o = ({ cls := .type "list", data := .seq items.toArray k } : Obj)) ∨ (∃ k, o = ({ cls := .type "tuple", data := .seq items.toArray k } : Obj)))
    (h0 : 0 ≤ i) (h1 : i < 2 ^ 63) (hx : items[i.toNat]? = some x) (h : Q x s)
    (hs : subscripted slice false (.ref l) (.int i u) = operate [.ref l, .int i u] (getItem (.ref l) (.int i u)) := by with_unfolding_all rfl) :
    wpAny (model prog w) A (subscriptTail value slice (.ref l) (.int i u)) Q E s := by
  rcases ho with ⟨k, rfl⟩ | ⟨k, rfl⟩
  · exact sub_lst N ma h0 h1 hx h hs
  · exact sub_tup N ma h0 h1 hx h hs
open PySem.Flt in
theorem max3_floats {x y z : UInt64} {t u v : Tok} {Q : Value → Shared → Prop} (hh : A.handled = none) (F : Fr h₀ L s.heap m) (N : News h₀ L s.heap news) (ma : (l, ({ cls := .type "list", data := .seq #[.float x t, .float y u, .float z v] k } : Obj)) ∈ news)
    (h : ∀ tk' h' tk, Fr h₀ L h' m → News h₀ L h' news → Q (.float (maxB x y z) tk') { s with heap := h', toks := tk }) :
    wpAny (model prog w) A (call (.builtin "max") [.ref l]) Q E s := by
  have hls : s.heap.IsList l [.float x t, .float y u, .float z v].toArray := ⟨_, N.get ma, rfl, _, rfl⟩
  have hf : FloatsAre [.float x t, .float y u, .float z v] [x, y, z] := .cons _ _ (.cons _ _ (.cons _ _ .nil))
  refine call_max_walk (iter_list_ hls fun s₂ e st hfp hlI => ?_)
  subst e
  have W := Walks.list (prog := prog) (w := w) (A := A.in1) hh _ l hlI [.float x t, .float y u, .float z v].toArray
  refine ⟨_, _, _, _, _, _, fun i j => gtB ([x, y, z].getD i 0) ([x, y, z].getD j 0), rfl, W, st, hfp, Nat.zero_lt_succ _, fun i j vi vj s Q E hi hj h => ?_, fun v' h' tk hP hk => ?_⟩
  · obtain ⟨b, t, rfl, e1⟩ := hf.at i vi (by simpa using hi)
    obtain ⟨c, u, rfl, e2⟩ := hf.at j vj (by simpa using hj)
    simp only [List.getD_eq_getElem?_getD, e1, e2, Option.getD_some] at h
    exact AutoFloatOps.gt_0 (by rw [cmp_gt]; exact h)
  · have hsz : #[Value.float x t, Value.float y u, Value.float z v].size = 3 := rfl
    rw [hsz] at hP
    obtain ⟨b, t, rfl, e1⟩ := hf.at _ _ ((List.getElem?_toArray).symm.trans hP)
    have e1 : [x, y, z][argBest (fun i j => gtB ([x, y, z].getD i 0) ([x, y, z].getD j 0)) 2]? = some b := e1
    have e2 := argBest_bits gtB [x, y, z] 2 (by simp)
    rw [List.getD_eq_getElem?_getD, e1, Option.getD_some] at e2
    have e3 : b = maxB x y z := e2
    have kp := kept_iter hk
    rw [e3]; exact h t h' tk (F.grownK kp) (N.grown kp)
end
section
variable {prog : Program} {w : World} {A : Around} {h₀ : Heap} {L : Addr} {m : Str → Option Value} {env : Env} {ct : Expr} {x : Str} {px : Pos} {scope : Scope} {cl : List (Str × Addr)} {s : Shared} {S : List (Addr × Obj) → Prop} {Fin : List Value → List (Addr × Obj) → Prop} {news : List (Addr × Obj)}
/-- one turn of a filter: what the test says of v -/
noncomputable def FltTurn (prog : Program) (w : World) (A : Around) (h₀ : Heap) (L : Addr) (m : Str → Option Value) (env : Env) (ct : Expr) (x : Str) (scope : Scope) (cl : List (Str × Addr)) (s : Shared) (news : List (Addr × Obj)) (v : Value) (b : Bool) : Prop :=
  ∀ I oI C oC D m₂ ys h tk (E' : Value → Shared → Prop), LCg.NsObj oC m₂ → m₂ x = some v → Fr h₀ L h m → News h₀ L h ((I, oI) :: (C, oC) :: (D, LCg.lst ys) :: news) → LCg.Off3 I C D news → ((@Ne Nat I C) ∧ (@Ne Nat I D) ∧ (@Ne Nat C D)) →
      wpAny (model prog w) A (isTrue ct (compEnvC scope cl C env) (eval ct (compEnvC scope cl C env))) (TestEnd h₀ L m ((I, oI) :: (C, oC) :: (D, LCg.lst ys) :: news) { s with heap := h, toks := tk } b) E' { s with heap := h, toks := tk }
theorem FltTurn.intro {v : Value} {b : Bool} (h : ∀ I oI C oC D m₂ ys h tk (E' : Value → Shared → Prop), LCg.NsObj oC m₂ → m₂ x = some v → Fr h₀ L h m → News h₀ L h ((I, oI) :: (C, oC) :: (D, LCg.lst ys) :: news) → LCg.Off3 I C D news → ((@Ne Nat I C) ∧ (@Ne Nat I D) ∧ (@Ne Nat C D)) →
      wpAny (model prog w) A (isTrue ct (compEnvC scope cl C env) (eval ct (compEnvC scope cl C env))) (TestEnd h₀ L m ((I, oI) :: (C, oC) :: (D, LCg.lst ys) :: news) { s with heap := h, toks := tk } b) E' { s with heap := h, toks := tk }) :
   FltTurn prog w A h₀ L m env ct x scope cl s news v b := h
theorem flt_3 {v1 v2 v3 : Value} {b1 b2 b3 : Bool} (t1 : FltTurn prog w A h₀ L m env ct x scope cl s news v1 b1) (t2 : FltTurn prog w A h₀ L m env ct x scope cl s news v2 b2) (t3 : FltTurn prog w A h₀ L m env ct x scope cl s news v3 b3)
    (hS : S news) (fin : Fin (selL [v1, v2, v3] [b1, b2, b3]) news)
    (hk : ∀ C, (compEnvC scope cl C env).scope.kind = .function := by intro _; rfl) (hl : ∀ C, (compEnvC scope cl C env).kindOf x = some .local := by intro _; rfl) (hd : (x == ("__debug__" : Str)) = false := by decide) :
    LCt.CompRestT prog w A h₀ L m env ct (.Name x px) x scope cl s S (fun i v => #[v1, v2, v3][i]? = some v) Fin 3 0 [] news :=
  flt_rest [b1, b2, b3] rfl rfl (fun i v h => by simpa using h) hS hk hl hd (fun i v b hv hb => by
    match i with
    | 0 => cases hv; cases hb; exact t1
    | 1 => cases hv; cases hb; exact t2
    | 2 => cases hv; cases hb; exact t3
    | n + 3 => simp at hv) fin
theorem flt_2 {v1 v2 : Value} {b1 b2 : Bool} (t1 : FltTurn prog w A h₀ L m env ct x scope cl s news v1 b1) (t2 : FltTurn prog w A h₀ L m env ct x scope cl s news v2 b2)
    (hS : S news) (f1 : HidP (b1 = true) → HidP (b2 = true) → Fin [v1, v2] news) (f2 : HidP (b1 = true) → HidP (b2 = false) → Fin [v1] news) (f3 : HidP (b1 = false) → HidP (b2 = true) → Fin [v2] news) (f4 : HidP (b1 = false) → HidP (b2 = false) → Fin [] news)
    (hk : ∀ C, (compEnvC scope cl C env).scope.kind = .function := by intro _; rfl) (hl : ∀ C, (compEnvC scope cl C env).kindOf x = some .local := by intro _; rfl) (hd : (x == ("__debug__" : Str)) = false := by decide) :
    LCt.CompRestT prog w A h₀ L m env ct (.Name x px) x scope cl s S (fun i v => #[v1, v2][i]? = some v) Fin 2 0 [] news :=
  flt_rest [b1, b2] rfl rfl (fun i v h => by simpa using h) hS hk hl hd (fun i v b hv hb => by
    match i with
    | 0 => cases hv; cases hb; exact t1
    | 1 => cases hv; cases hb; exact t2
    | n + 2 => simp at hv) (by
    cases b1 <;> cases b2
    · exact f4 ⟨rfl⟩ ⟨rfl⟩
    · exact f3 ⟨rfl⟩ ⟨rfl⟩
    · exact f2 ⟨rfl⟩ ⟨rfl⟩
    · exact f1 ⟨rfl⟩ ⟨rfl⟩)
theorem flt_1 {v1 : Value} {b1 : Bool} (t1 : FltTurn prog w A h₀ L m env ct x scope cl s news v1 b1)
    (hS : S news) (f1 : HidP (b1 = true) → Fin [v1] news) (f2 : HidP (b1 = false) → Fin [] news)
    (hk : ∀ C, (compEnvC scope cl C env).scope.kind = .function := by intro _; rfl) (hl : ∀ C, (compEnvC scope cl C env).kindOf x = some .local := by intro _; rfl) (hd : (x == ("__debug__" : Str)) = false := by decide) :
    LCt.CompRestT prog w A h₀ L m env ct (.Name x px) x scope cl s S (fun i v => #[v1][i]? = some v) Fin 1 0 [] news :=
  flt_rest [b1] rfl rfl (fun i v h => by simpa using h) hS hk hl hd (fun i v b hv hb => by
    match i with
    | 0 => cases hv; cases hb; exact t1
    | n + 1 => simp at hv) (by
    cases b1
    · exact f2 ⟨rfl⟩
    · exact f1 ⟨rfl⟩)
theorem sel3_any (v1 v2 v3 : Value) (b1 b2 b3 : Bool) : ((selL [v1, v2, v3] [b1, b2, b3]).length ≠ 0) = ((b1 || b2 || b3) = true) := by
  cases b1 <;> cases b2 <;> cases b3 <;> simp [selL]
end
section
variable {prog : Program} {w : World} {A : Around} {h₀ : Heap} {L : Addr} {m : Str → Option Value} {env : Env} {ct : Expr} {x : Str} {px : Pos} {scope : Scope} {cl : List (Str × Addr)} {s : Shared} {S : List (Addr × Obj) → Prop} {Fin : List Value → List (Addr × Obj) → Prop} {news : List (Addr × Obj)}
/-- three paints filtered by being grey -/
theorem flt_grey {p q r : Addr} {a1 b1 c1 a2 b2 c2 a3 b3 c3 : Int} {u1 u2 u3 u4 u5 u6 u7 u8 u9 : Tok} (e1 : (p, tup3 a1 b1 c1 u1 u2 u3) ∈ news) (e2 : (q, tup3 a2 b2 c2 u4 u5 u6) ∈ news) (e3 : (r, tup3 a3 b3 c3 u7 u8 u9) ∈ news)
    (t1 : FltTurn prog w A h₀ L m env ct x scope cl s news (.ref p) (decide (a1 = b1 ∧ b1 = c1))) (t2 : FltTurn prog w A h₀ L m env ct x scope cl s news (.ref q) (decide (a2 = b2 ∧ b2 = c2))) (t3 : FltTurn prog w A h₀ L m env ct x scope cl s news (.ref r) (decide (a3 = b3 ∧ b3 = c3)))
    (hS : S news) (fin : Fin (selL [.ref p, .ref q, .ref r] [decide (a1 = b1 ∧ b1 = c1), decide (a2 = b2 ∧ b2 = c2), decide (a3 = b3 ∧ b3 = c3)]) news)
    (hk : ∀ C, (compEnvC scope cl C env).scope.kind = .function := by intro _; rfl) (hl : ∀ C, (compEnvC scope cl C env).kindOf x = some .local := by intro _; rfl) (hd : (x == ("__debug__" : Str)) = false := by decide) :
    LCt.CompRestT prog w A h₀ L m env ct (.Name x px) x scope cl s S (fun i v => #[.ref p, .ref q, .ref r][i]? = some v) Fin 3 0 [] news := flt_3 t1 t2 t3 hS fin hk hl hd
theorem greyT1 {a b c : Int} (h : HidP (¬ a = b)) : false = decide (a = b ∧ b = c) := (decide_eq_false fun q => h.out q.1).symm
theorem greyT2 {a b c : Int} (h : HidP (a = b)) : (b == c) = decide (a = b ∧ b = c) := by
  have h := h.out
  by_cases q : b = c
  · rw [decide_eq_true ⟨h, q⟩]; simpa using q
  · rw [decide_eq_false fun y => q y.2]; simpa using q
theorem greyT3 {a b c : Int} (h : HidP (a = b)) : decide (b = c) = decide (a = b ∧ b = c) := decide_eq_decide.mpr ⟨fun q => ⟨h.out, q⟩, fun q => q.2⟩
end
section
variable {prog : Program} {w : World} {A : Around} {E : Value → Shared → Prop} {s : Shared} {h₀ : Heap} {L l : Addr} {news : List (Addr × Obj)} {k : Nat}
theorem len_lst {items : List Value} {Q : Value → Shared → Prop} (N : News h₀ L s.heap news) (ma : (l, ({ cls := .type "list", data := .seq items.toArray k } : Obj)) ∈ news) (hn : items.length ≤ 1048576)
    (h : Q (.int items.length (s.toks + 1)) { s with toks := s.toks + 1 + 1 }) : wpAny (model prog w) A (call (.builtin "len") [.ref l]) Q E s :=
  len_list (items := items.toArray) ⟨_, N.get ma, rfl, _, rfl⟩ (by rw [List.size_toArray]; omega) (by rw [List.size_toArray]; exact h)
end
section
variable {prog : Program} {w : World} {A : Around} {h₀ : Heap} {L ax : Addr} {m : Str → Option Value} {env : Env} {ct : Expr} {x : Str} {px : Pos} {scope : Scope} {cl : List (Str × Addr)} {s₁ : Shared} {Fin : Shared → List Value → List (Addr × Obj) → Prop} {news : List (Addr × Obj)} {k : Nat}
theorem srcflt_3 {v1 v2 v3 : Value} {b1 b2 b3 : Bool} (hh : A.handled = none) (F : Fr h₀ L s₁.heap m) (N : News h₀ L s₁.heap news) (hm : (ax, ({ cls := .type "list", data := .seq #[v1, v2, v3] k } : Obj)) ∈ news)
    (t1 : ∀ g, FltTurn prog w A h₀ L m env ct x scope cl { s₁ with heap := g } news v1 b1) (t2 : ∀ g, FltTurn prog w A h₀ L m env ct x scope cl { s₁ with heap := g } news v2 b2) (t3 : ∀ g, FltTurn prog w A h₀ L m env ct x scope cl { s₁ with heap := g } news v3 b3)
    (fin : ∀ g, Fin { s₁ with heap := g } (selL [v1, v2, v3] [b1, b2, b3]) news)
    (hk : ∀ C, (compEnvC scope cl C env).scope.kind = .function := by intro _; rfl) (hl : ∀ C, (compEnvC scope cl C env).kindOf x = some .local := by intro _; rfl) (hd : (x == ("__debug__" : Str)) = false := by decide) :
    LCt.CompSrcT prog w A h₀ L m env ct (.Name x px) x scope cl Fin (.ref ax) s₁ :=
  LCt.CompSrcT.ledger hh F N hm (Nat.le_of_ble_eq_true rfl) fun g => flt_3 (t1 g) (t2 g) (t3 g) (.inr ⟨_, hm, rfl, _, rfl⟩) (fin g) hk hl hd
theorem srcflt_2 {v1 v2 : Value} {b1 b2 : Bool} (hh : A.handled = none) (F : Fr h₀ L s₁.heap m) (N : News h₀ L s₁.heap news) (hm : (ax, ({ cls := .type "list", data := .seq #[v1, v2] k } : Obj)) ∈ news)
    (t1 : ∀ g, FltTurn prog w A h₀ L m env ct x scope cl { s₁ with heap := g } news v1 b1) (t2 : ∀ g, FltTurn prog w A h₀ L m env ct x scope cl { s₁ with heap := g } news v2 b2)
    (f1 : ∀ g, HidP (b1 = true) → HidP (b2 = true) → Fin { s₁ with heap := g } [v1, v2] news) (f2 : ∀ g, HidP (b1 = true) → HidP (b2 = false) → Fin { s₁ with heap := g } [v1] news)
    (f3 : ∀ g, HidP (b1 = false) → HidP (b2 = true) → Fin { s₁ with heap := g } [v2] news) (f4 : ∀ g, HidP (b1 = false) → HidP (b2 = false) → Fin { s₁ with heap := g } [] news)
    (hk : ∀ C, (compEnvC scope cl C env).scope.kind = .function := by intro _; rfl) (hl : ∀ C, (compEnvC scope cl C env).kindOf x = some .local := by intro _; rfl) (hd : (x == ("__debug__" : Str)) = false := by decide) :
    LCt.CompSrcT prog w A h₀ L m env ct (.Name x px) x scope cl Fin (.ref ax) s₁ :=
  LCt.CompSrcT.ledger hh F N hm (Nat.le_of_ble_eq_true rfl) fun g => flt_2 (t1 g) (t2 g) (.inr ⟨_, hm, rfl, _, rfl⟩) (f1 g) (f2 g) (f3 g) (f4 g) hk hl hd
theorem srcflt_1 {v1 : Value} {b1 : Bool} (hh : A.handled = none) (F : Fr h₀ L s₁.heap m) (N : News h₀ L s₁.heap news) (hm : (ax, ({ cls := .type "list", data := .seq #[v1] k } : Obj)) ∈ news)
    (t1 : ∀ g, FltTurn prog w A h₀ L m env ct x scope cl { s₁ with heap := g } news v1 b1)
    (f1 : ∀ g, HidP (b1 = true) → Fin { s₁ with heap := g } [v1] news) (f2 : ∀ g, HidP (b1 = false) → Fin { s₁ with heap := g } [] news)
    (hk : ∀ C, (compEnvC scope cl C env).scope.kind = .function := by intro _; rfl) (hl : ∀ C, (compEnvC scope cl C env).kindOf x = some .local := by intro _; rfl) (hd : (x == ("__debug__" : Str)) = false := by decide) :
    LCt.CompSrcT prog w A h₀ L m env ct (.Name x px) x scope cl Fin (.ref ax) s₁ :=
  LCt.CompSrcT.ledger hh F N hm (Nat.le_of_ble_eq_true rfl) fun g => flt_1 (t1 g) (.inr ⟨_, hm, rfl, _, rfl⟩) (f1 g) (f2 g) hk hl hd
theorem srcflt_g {p q r : Addr} {a1 b1 c1 a2 b2 c2 a3 b3 c3 : Int} {u1 u2 u3 u4 u5 u6 u7 u8 u9 : Tok} (hh : A.handled = none) (F : Fr h₀ L s₁.heap m) (N : News h₀ L s₁.heap news) (hm : (ax, ({ cls := .type "list", data := .seq #[.ref p, .ref q, .ref r] k } : Obj)) ∈ news)
    (e1 : (p, tup3 a1 b1 c1 u1 u2 u3) ∈ news) (e2 : (q, tup3 a2 b2 c2 u4 u5 u6) ∈ news) (e3 : (r, tup3 a3 b3 c3 u7 u8 u9) ∈ news)
    (t1 : ∀ g, FltTurn prog w A h₀ L m env ct x scope cl { s₁ with heap := g } news (.ref p) (decide (a1 = b1 ∧ b1 = c1))) (t2 : ∀ g, FltTurn prog w A h₀ L m env ct x scope cl { s₁ with heap := g } news (.ref q) (decide (a2 = b2 ∧ b2 = c2))) (t3 : ∀ g, FltTurn prog w A h₀ L m env ct x scope cl { s₁ with heap := g } news (.ref r) (decide (a3 = b3 ∧ b3 = c3)))
    (fin : ∀ g, Fin { s₁ with heap := g } (selL [.ref p, .ref q, .ref r] [decide (a1 = b1 ∧ b1 = c1), decide (a2 = b2 ∧ b2 = c2), decide (a3 = b3 ∧ b3 = c3)]) news)
    (hk : ∀ C, (compEnvC scope cl C env).scope.kind = .function := by intro _; rfl) (hl : ∀ C, (compEnvC scope cl C env).kindOf x = some .local := by intro _; rfl) (hd : (x == ("__debug__" : Str)) = false := by decide) :
    LCt.CompSrcT prog w A h₀ L m env ct (.Name x px) x scope cl Fin (.ref ax) s₁ := srcflt_3 hh F N hm t1 t2 t3 fin hk hl hd
end
end
local macro_rules | `(tactic| walk_at "mine ne") => `(tactic| ((repeat' (first | exact List.forall_mem_nil _ | refine List.forall_mem_cons.mpr ⟨?_, ?_⟩)) <;> k_ne))
local macro_rules | `(tactic| k_ne) => `(tactic| (refine neN ?_; (try dsimp only); first | with_reducible assumption | (with_reducible refine Ne.symm ?_; with_reducible assumption) | exact ltL (by with_reducible assumption) | exact ltR (by with_reducible assumption) | omega))
local macro_rules | `(tactic| walk_at "mine split") => `(tactic| (repeat (first | (with_reducible rename ((@Ne Nat _ _ ∧ _) ∧ _) => hc9; have c8' := hc9.1; have c9' := hc9.2; clear hc9) | (with_reducible rename (@Ne Nat _ _ ∧ _) => hc9; have c8' := hc9.1; have c9' := hc9.2; clear hc9) | (with_reducible rename (@LT.lt Nat _ _ _ ∧ _) => hc9; have c8' := hc9.1; have c9' := hc9.2; clear hc9))))
local macro_rules | `(tactic| ktr_room) => `(tactic| ((try simp only [depth_under_make, depth_under_kw, depth_in1, depth_deeper, depth_caller]); (try dsimp only [ktrTop]); (try simp only [Nat.add_assoc, Nat.reduceAdd]); first | exact roomL (by with_reducible assumption) (by decide) | exact roomL (b := 0) (by with_reducible assumption) (by decide)))
local macro_rules | `(tactic| ktr_units) => `(tactic| ((try simp only [units_in1, units_deeper, Around.mark_units, units_caller]); (try dsimp only [ktrTop]); (try simp only [Nat.add_assoc, Nat.reduceAdd]); first | exact roomL (by with_reducible assumption) (by decide) | exact roomL (b := 0) (by with_reducible assumption) (by decide)))
local macro_rules | `(tactic| k_room) => `(tactic| ktr_room)
local macro_rules | `(tactic| k_units) => `(tactic| ktr_units)
local macro_rules | `(tactic| walk_at "mine mem") => `(tactic| first | exact List.Mem.head _ | (refine' List.Mem.tail _ ?_; walk_at "mine mem"))
local macro_rules | `(tactic| k_mem) => `(tactic| ((with_reducible show (_, _) ∈ _ :: _); walk_at "mine mem"))
section
set_option maxRecDepth 100000 in
set_option maxHeartbeats 8000000 in
theorem span_tell (w : World) (mean mg mb) (p q : Addr) (a b c d e f : Int) (t1 t2 t3 t4 t5 t6 : Tok)
   (ha : 0 ≤ a ∧ a ≤ 8) (hb : 0 ≤ b ∧ b ≤ 8) (hc : 0 ≤ c ∧ c ≤ 8) (hd : 0 ≤ d ∧ d ≤ 8) (he : 0 ≤ e ∧ e ≤ 8) (hf : 0 ≤ f ∧ f ≤ 8) :
    Tell 2 w mean mg mb 229 [(p, tup3 a b c t1 t2 t3), (q, tup3 d e f t4 t5 t6)] [.ref p, .ref q] (fun tl v => tl = [] ∧ ∃ t, v = .int (spanZ a b c d e f) t) := by
  w_on; unfold Tell; k_fill
  intro dp un gd cn cs a ccd cl outer A₀ base h₀ L m s Q E B F X N T hk hd hu hret
  refine wpAny_call ?_
  k_dflt (refine' code_tell ?zqk1 ?zqk2 ?zqk3 ?zqk4 ?zqk5 ?zqkA ?zqkF ?zqkK ?zqk6 ?zqk7 ?zqk8 ?zqk9 ?zqkB ?_ ?zqc2 ?zqc3 ?zqc4 ?zqc5; (case zqkA => exact rfl); (case zqkF => exact rfl); (case zqkK => assumption); (case zqk1 => k_asm); (case zqk2 => k_asm); (case zqk3 => k_asm); (case zqk4 => k_asm); (case zqk5 => k_asm); (case zqk6 => k_is); (case zqk7 => k_is); (case zqk8 => ktr_room); (case zqk9 => first | exact BindsTo.of_eq rfl | exact binds_K (by k_in) rfl (by k_is) rfl rfl rfl); (case zqc5 => decide); (case zqkB => exact locs rfl); (case zqc2 => exact rfl); (case zqc3 => exact rfl); (case zqc4 => exact rfl); k_whole)
  intro g' L' h' hg FG' F' N' B' X' T' l0
  (try dsimp only); (try k_fold)
  k_steps
  all_goals (refine' tell_fin hret hg ?F ?N N ?hs [] ?ht ?hne ?hp; (case F => k_asm); (case N => k_asm); (case hs => k_subL); (case ht => k_subL); (case hne => walk_at "mine ne"); (case hp => exact ⟨rfl, _, rfl⟩))
end
section
@[reducible] noncomputable def hsv (h s : UInt64) (v : Int) (t1 t2 t3 : Tok) : Obj := { cls := .type "tuple", data := .seq #[.float h t1, .float s t2, .int v t3] 0 }
noncomputable def HsvPost (h s : UInt64) (tl : List (Addr × Obj)) (v : Value) : Prop := ∃ D x t1 t2 t3, v = .ref D ∧ tl = [(D, hsv h s x t1 t2 t3)]
theorem mx_eq {a b c M : Int} (h1 : a ≤ M) (h2 : b ≤ M) (h3 : c ≤ M) (h4 : M = a ∨ M = b ∨ M = c) : mx3 a b c = M := by
  unfold mx3
  rcases h4 with rfl | rfl | rfl
  · exact Int.max_eq_left (Int.max_le.mpr ⟨h2, h3⟩)
  · rw [Int.max_eq_left h3]; exact Int.max_eq_right h1
  · rw [Int.max_eq_right h2]; exact Int.max_eq_right h1
theorem mn_eq {a b c m : Int} (h1 : m ≤ a) (h2 : m ≤ b) (h3 : m ≤ c) (h4 : m = a ∨ m = b ∨ m = c) : mn3 a b c = m := by
  unfold mn3
  rcases h4 with rfl | rfl | rfl
  · exact Int.min_eq_left (Int.le_min.mpr ⟨h2, h3⟩)
  · rw [Int.min_eq_left h3]; exact Int.min_eq_right h1
  · rw [Int.min_eq_right h2]; exact Int.min_eq_right h1
theorem hsvPost_0 {a b c M m : Int} {D x t1 t2 t3} (h1 : a ≤ M) (h2 : b ≤ M) (h3 : c ≤ M) (h4 : M = a ∨ M = b ∨ M = c) (h1' : m ≤ a) (h2' : m ≤ b) (h3' : m ≤ c) (h4' : m = a ∨ m = b ∨ m = c) (he : m = M) :
    HsvPost (hueF a b c) (satF a b c) [(D, hsv 0 0 x t1 t2 t3)] (.ref D) := by
  have eM : mx3 a b c = M := mx_eq h1 h2 h3 h4
  have em : mn3 a b c = m := mn_eq h1' h2' h3' h4'
  refine ⟨D, x, t1, t2, t3, rfl, ?_⟩
  rw [hueF, satF, eM, em, if_pos he, if_pos he]
theorem hsvPost_1 {a b c M m : Int} {D x t1 t2 t3} (h1 : a ≤ M) (h2 : b ≤ M) (h3 : c ≤ M) (h4 : M = a ∨ M = b ∨ M = c) (h1' : m ≤ a) (h2' : m ≤ b) (h3' : m ≤ c) (h4' : m = a ∨ m = b ∨ m = c) (he : ¬ m = M) (ha : a = M) :
    HsvPost (hueF a b c) (satF a b c) [(D, hsv (Float64.divmod (Float64.div (Float64.sub (quoF (M - c) (M - m)) (quoF (M - b) (M - m))) 4618441417868443648) 4607182418800017408).2 (quoF (M - m) M) x t1 t2 t3)] (.ref D) := by
  have eM : mx3 a b c = M := mx_eq h1 h2 h3 h4
  have em : mn3 a b c = m := mn_eq h1' h2' h3' h4'
  refine ⟨D, x, t1, t2, t3, rfl, ?_⟩
  rw [hueF, satF, eM, em, if_neg he, if_neg he, if_pos ha]
theorem hsvPost_2 {a b c M m : Int} {D x t1 t2 t3} (h1 : a ≤ M) (h2 : b ≤ M) (h3 : c ≤ M) (h4 : M = a ∨ M = b ∨ M = c) (h1' : m ≤ a) (h2' : m ≤ b) (h3' : m ≤ c) (h4' : m = a ∨ m = b ∨ m = c) (he : ¬ m = M) (ha : ¬ a = M) (hb : b = M) :
    HsvPost (hueF a b c) (satF a b c) [(D, hsv (Float64.divmod (Float64.div (Float64.sub (Float64.add 4611686018427387904 (quoF (M - a) (M - m))) (quoF (M - c) (M - m))) 4618441417868443648) 4607182418800017408).2 (quoF (M - m) M) x t1 t2 t3)] (.ref D) := by
  have eM : mx3 a b c = M := mx_eq h1 h2 h3 h4
  have em : mn3 a b c = m := mn_eq h1' h2' h3' h4'
  refine ⟨D, x, t1, t2, t3, rfl, ?_⟩
  rw [hueF, satF, eM, em, if_neg he, if_neg he, if_neg ha, if_pos hb]
theorem hsvPost_3 {a b c M m : Int} {D x t1 t2 t3} (h1 : a ≤ M) (h2 : b ≤ M) (h3 : c ≤ M) (h4 : M = a ∨ M = b ∨ M = c) (h1' : m ≤ a) (h2' : m ≤ b) (h3' : m ≤ c) (h4' : m = a ∨ m = b ∨ m = c) (he : ¬ m = M) (ha : ¬ a = M) (hb : ¬ b = M) :
    HsvPost (hueF a b c) (satF a b c) [(D, hsv (Float64.divmod (Float64.div (Float64.sub (Float64.add 4616189618054758400 (quoF (M - b) (M - m))) (quoF (M - a) (M - m))) 4618441417868443648) 4607182418800017408).2 (quoF (M - m) M) x t1 t2 t3)] (.ref D) := by
  have eM : mx3 a b c = M := mx_eq h1 h2 h3 h4
  have em : mn3 a b c = m := mn_eq h1' h2' h3' h4'
  refine ⟨D, x, t1, t2, t3, rfl, ?_⟩
  rw [hueF, satF, eM, em, if_neg he, if_neg he, if_neg ha, if_neg hb]

set_option maxRecDepth 100000 in
set_option maxHeartbeats 8000000 in
theorem rgb_tell (w : World) (mean mg mb) (a b c : Int) (t1 t2 t3 : Tok)
   (ha : 0 ≤ a ∧ a ≤ 8) (hb : 0 ≤ b ∧ b ≤ 8) (hc : 0 ≤ c ∧ c ≤ 8) :
    Tell 2 w mean mg mb 45 [] [.int a t1, .int b t2, .int c t3] (HsvPost (hueF a b c) (satF a b c)) := by
  w_on; unfold Tell; k_fill
  intro dp un gd cn cs aZ ccd cl outer A₀ base h₀ L m s Q E B F X N T hk hd hu hret
  refine wpAny_call ?_
  k_dflt (refine' code_tell ?zqk1 ?zqk2 ?zqk3 ?zqk4 ?zqk5 ?zqkA ?zqkF ?zqkK ?zqk6 ?zqk7 ?zqk8 ?zqk9 ?zqkB ?_ ?zqc2 ?zqc3 ?zqc4 ?zqc5; (case zqkA => exact rfl); (case zqkF => exact rfl); (case zqkK => assumption); (case zqk1 => k_asm); (case zqk2 => k_asm); (case zqk3 => k_asm); (case zqk4 => k_asm); (case zqk5 => k_asm); (case zqk6 => k_is); (case zqk7 => k_is); (case zqk8 => ktr_room); (case zqk9 => first | exact BindsTo.of_eq rfl | exact binds_K (by k_in) rfl (by k_is) rfl rfl rfl); (case zqc5 => decide); (case zqkB => exact locs rfl); (case zqc2 => exact rfl); (case zqc3 => exact rfl); (case zqc4 => exact rfl); k_whole)
  intro g' L' h' hg FG' F' N' B' X' T' l0
  (try dsimp only); (try k_fold)
  repeat' (first |  ((with_reducible show wpAny _ _ (call (Value.builtin "min") _ _) _ _ _); (k_here; (with_reducible show wpAny _ _ (call (Value.builtin _) [Value.int _ _, Value.int _ _, Value.int _ _]) _ _ _); k_dflt (refine' min_three_N ?zqk0 ?zqk1 ?zqk2 ?_; (case zqk0 => exact rfl); (case zqk1 => k_asm); (case zqk2 => k_asm); k_whole); intro M' t' h' tk' F' N' m1' m2' m3' m4'; (try k_sweep))) | ((with_reducible show wpAny _ _ (call (Value.builtin "max") _ _) _ _ _); (k_here; (with_reducible show wpAny _ _ (call (Value.builtin _) [Value.int _ _, Value.int _ _, Value.int _ _]) _ _ _); k_dflt (refine' max_three_N ?zqk0 ?zqk1 ?zqk2 ?_; (case zqk0 => exact rfl); (case zqk1 => k_asm); (case zqk2 => k_asm); k_whole); intro M' t' h' tk' F' N' m1' m2' m3' m4'; (try k_sweep))) | (k_unfold; (try dsimp only)) | (k_end; wrow_close) | (walk1 <;> (try dsimp only) <;> (try walk_at "mine split")) | (dsimp only; walk1) | (leave1; walk_say "STEP leave1"; try dsimp only) | fail "no step")
  all_goals first
  | (exfalso; (first | lia | omega))
  | exact tell_fin2 hret hg (by k_asm) (by k_asm) N (by k_subL) (hsvPost_0 (by with_reducible assumption) (by with_reducible assumption) (by with_reducible assumption) (by with_reducible assumption) (by with_reducible assumption) (by with_reducible assumption) (by with_reducible assumption) (by with_reducible assumption) (by with_reducible assumption)) (by k_subL) (by walk_at "mine ne")
  | exact tell_fin2 hret hg (by k_asm) (by k_asm) N (by k_subL) (hsvPost_1 (by with_reducible assumption) (by with_reducible assumption) (by with_reducible assumption) (by with_reducible assumption) (by with_reducible assumption) (by with_reducible assumption) (by with_reducible assumption) (by with_reducible assumption) (by with_reducible assumption) (by with_reducible assumption)) (by k_subL) (by walk_at "mine ne")
  | exact tell_fin2 hret hg (by k_asm) (by k_asm) N (by k_subL) (hsvPost_2 (by with_reducible assumption) (by with_reducible assumption) (by with_reducible assumption) (by with_reducible assumption) (by with_reducible assumption) (by with_reducible assumption) (by with_reducible assumption) (by with_reducible assumption) (by with_reducible assumption) (by with_reducible assumption) (by with_reducible assumption)) (by k_subL) (by walk_at "mine ne")
  | exact tell_fin2 hret hg (by k_asm) (by k_asm) N (by k_subL) (hsvPost_3 (by with_reducible assumption) (by with_reducible assumption) (by with_reducible assumption) (by with_reducible assumption) (by with_reducible assumption) (by with_reducible assumption) (by with_reducible assumption) (by with_reducible assumption) (by with_reducible assumption) (by with_reducible assumption) (by with_reducible assumption)) (by k_subL) (by walk_at "mine ne")

set_option maxRecDepth 100000 in
set_option maxHeartbeats 8000000 in
theorem rgb_grey (w : World) (mean mg mb) (a b c : Int) (t1 t2 t3 : Tok)
   (ha : a = b) (hb : b = c) :
    Tell 2 w mean mg mb 45 [] [.int a t1, .int b t2, .int c t3] (fun tl v => ∃ D x t1 t2 t3, v = .ref D ∧ tl = [(D, hsv 0 0 x t1 t2 t3)]) := by
  w_on; unfold Tell; k_fill
  intro dp un gd cn cs aZ ccd cl outer A₀ base h₀ L m s Q E B F X N T hk hd hu hret
  refine wpAny_call ?_
  k_dflt (refine' code_tell ?zqk1 ?zqk2 ?zqk3 ?zqk4 ?zqk5 ?zqkA ?zqkF ?zqkK ?zqk6 ?zqk7 ?zqk8 ?zqk9 ?zqkB ?_ ?zqc2 ?zqc3 ?zqc4 ?zqc5; (case zqkA => exact rfl); (case zqkF => exact rfl); (case zqkK => assumption); (case zqk1 => k_asm); (case zqk2 => k_asm); (case zqk3 => k_asm); (case zqk4 => k_asm); (case zqk5 => k_asm); (case zqk6 => k_is); (case zqk7 => k_is); (case zqk8 => ktr_room); (case zqk9 => first | exact BindsTo.of_eq rfl | exact binds_K (by k_in) rfl (by k_is) rfl rfl rfl); (case zqc5 => decide); (case zqkB => exact locs rfl); (case zqc2 => exact rfl); (case zqc3 => exact rfl); (case zqc4 => exact rfl); k_whole)
  intro g' L' h' hg FG' F' N' B' X' T' l0
  (try dsimp only); (try k_fold)
  repeat' (first | ((with_reducible show wpAny _ _ (execs (Stmt.Assign [Expr.Name _ _] (Expr.BinOp _ _ _ _) _ :: _) _) _ _ _); exfalso; omega) |   ((with_reducible show wpAny _ _ (call (Value.builtin "min") _ _) _ _ _); (k_here; (with_reducible show wpAny _ _ (call (Value.builtin _) [Value.int _ _, Value.int _ _, Value.int _ _]) _ _ _); k_dflt (refine' min_three_N ?zqk0 ?zqk1 ?zqk2 ?_; (case zqk0 => exact rfl); (case zqk1 => k_asm); (case zqk2 => k_asm); k_whole); intro M' t' h' tk' F' N' m1' m2' m3' m4'; (try k_sweep))) | ((with_reducible show wpAny _ _ (call (Value.builtin "max") _ _) _ _ _); (k_here; (with_reducible show wpAny _ _ (call (Value.builtin _) [Value.int _ _, Value.int _ _, Value.int _ _]) _ _ _); k_dflt (refine' max_three_N ?zqk0 ?zqk1 ?zqk2 ?_; (case zqk0 => exact rfl); (case zqk1 => k_asm); (case zqk2 => k_asm); k_whole); intro M' t' h' tk' F' N' m1' m2' m3' m4'; (try k_sweep))) | (k_unfold; (try dsimp only)) | (k_end; wrow_close) | (walk1 <;> (try dsimp only) <;> (try walk_at "mine split")) | (dsimp only; walk1) | (leave1; walk_say "STEP leave1"; try dsimp only) | fail "no step")
  all_goals first
  | (exfalso; (first | lia | omega))
  | exact tell_fin2 hret hg (by k_asm) (by k_asm) N (by k_subL) (⟨_, _, _, _, _, rfl, rfl⟩) (by k_subL) (by walk_at "mine ne")
end
section
theorem cmp_a {h1 h2 : UInt64} {t : Tok} {v : Value} (e : v = .int (-1) t) (h : (Float64.cmp h1 h2 == some .lt) = true) : v = .int (cmpF h1 h2) t := by unfold cmpF; rw [if_pos h]; exact e
theorem cmp_b {h1 h2 : UInt64} {t : Tok} {v : Value} (e : v = .int 1 t) (h : (Float64.cmp h1 h2 == some .lt) = false) (h' : (Float64.cmp h1 h2 == some .gt) = true) : v = .int (cmpF h1 h2) t := by unfold cmpF; rw [if_neg (by rw [h]; decide), if_pos h']; exact e
theorem cmp_c {h1 h2 : UInt64} {t : Tok} {v : Value} (e : v = .int 0 t) (h : (Float64.cmp h1 h2 == some .lt) = false) (h' : (Float64.cmp h1 h2 == some .gt) = false) : v = .int (cmpF h1 h2) t := by unfold cmpF; rw [if_neg (by rw [h]; decide), if_neg (by rw [h']; decide)]; exact e

set_option maxRecDepth 100000 in
set_option maxHeartbeats 8000000 in
theorem cmp_tell (w : World) (mean mg mb) (j jd l p q r : Addr) (h1 s1 h2 s2 : UInt64) (v1 v2 : Int) (t1 t2 t3 t4 t5 t6 t7 t8 : Tok) (kh kt : _) (nn : Nat)
    :
    Tell 2 w mean mg mb 66 [(j, (⟨.ref 69, some jd, .plain, #[]⟩ : Obj)), (jd, dictOf [⟨kh, .str "comp_select_list" kt, .ref l⟩] 1), (l, { cls := .type "list", data := .seq #[.ref r] 0 }), (r, { cls := .type "tuple", data := .seq #[.int 0 t7, .int 1 t8] 0 }), (p, hsv h1 s1 v1 t1 t2 t3), (q, hsv h2 s2 v2 t4 t5 t6)] [.ref j, .ref p, .ref q] (fun tl v => tl = [] ∧ ∃ t, v = .int (cmpF h1 h2) t) := by
  w_on; unfold Tell; k_fill
  intro dp un gd cn cs aZ ccd cl outer A₀ base h₀ L m s Q E B F X N T hk hd hu hret
  refine wpAny_call ?_
  k_dflt (refine' code_tell ?zqk1 ?zqk2 ?zqk3 ?zqk4 ?zqk5 ?zqkA ?zqkF ?zqkK ?zqk6 ?zqk7 ?zqk8 ?zqk9 ?zqkB ?_ ?zqc2 ?zqc3 ?zqc4 ?zqc5; (case zqkA => exact rfl); (case zqkF => exact rfl); (case zqkK => assumption); (case zqk1 => k_asm); (case zqk2 => k_asm); (case zqk3 => k_asm); (case zqk4 => k_asm); (case zqk5 => k_asm); (case zqk6 => k_is); (case zqk7 => k_is); (case zqk8 => ktr_room); (case zqk9 => first | exact BindsTo.of_eq rfl | exact binds_K (by k_in) rfl (by k_is) rfl rfl rfl); (case zqc5 => decide); (case zqkB => exact locs rfl); (case zqc2 => exact rfl); (case zqc3 => exact rfl); (case zqc4 => exact rfl); k_whole)
  intro g' L' h' hg FG' F' N' B' X' T' l0
  (try dsimp only); (try k_fold)
  repeat' (first |  ((with_reducible show wpAny _ _ (exec (Stmt.For (Expr.Tuple _ _ _) (Expr.Attribute _ _ _) _ _ _) _) _ _ _); (k_here; (rename Fr _ _ _ _ => lF'); (with_unfolding_all refine' For_turns lF' ?_; k_whole))) | (k_unfold; (try dsimp only)) | (k_end; wrow_close) | (walk1 <;> (try dsimp only) <;> (try walk_at "mine split")) | (dsimp only; walk1) | (leave1; walk_say "STEP leave1"; try dsimp only) | fail "no step")
  all_goals first
  | (exfalso; omega)
  | exact tell_fin2 hret hg (by k_asm) (by k_asm) N (by k_subL) (⟨rfl, _, cmp_a rfl (by with_reducible assumption)⟩) (by k_subL) (by walk_at "mine ne")
  | exact tell_fin2 hret hg (by k_asm) (by k_asm) N (by k_subL) (⟨rfl, _, cmp_b rfl (by with_reducible assumption) (by with_reducible assumption)⟩) (by k_subL) (by walk_at "mine ne")
  | exact tell_fin2 hret hg (by k_asm) (by k_asm) N (by k_subL) (⟨rfl, _, cmp_c rfl (by with_reducible assumption) (by with_reducible assumption)⟩) (by k_subL) (by walk_at "mine ne")
end
section
set_option maxRecDepth 100000 in
set_option maxHeartbeats 8000000 in
theorem callers_tell (w : World) (mean mg mb) (e f : Addr) (oe of : Obj)
   (hse : Obj.IsDictOf (PySem.strKind PySem.Challenge.rw_pg0251_01.row.prog w) oe []) (hsf : Obj.IsDictOf (PySem.strKind PySem.Challenge.rw_pg0251_01.row.prog w) of []) (fse : PyProof.V.FlatPairs PyData.str [] []) (le : (e == sysModules) = false) (lf : (f == sysModules) = false) :
    Tell 2 w mean mg mb 87 [(e, oe), (f, of)] [.ref e, .ref f] (fun tl v => ∃ D o, v = .ref D ∧ tl = [(D, o)] ∧ Obj.IsDictOf (PySem.strKind PySem.Challenge.rw_pg0251_01.row.prog w) o [] ∧ (D == sysModules) = false) := by
  w_on; unfold Tell; k_fill
  intro dp un gd cn cs aZ ccd cl outer A₀ base h₀ L m s Q E B F X N T hk hd hu hret
  refine wpAny_call ?_
  k_dflt (refine' code_tell ?zqk1 ?zqk2 ?zqk3 ?zqk4 ?zqk5 ?zqkA ?zqkF ?zqkK ?zqk6 ?zqk7 ?zqk8 ?zqk9 ?zqkB ?_ ?zqc2 ?zqc3 ?zqc4 ?zqc5; (case zqkA => exact rfl); (case zqkF => exact rfl); (case zqkK => assumption); (case zqk1 => k_asm); (case zqk2 => k_asm); (case zqk3 => k_asm); (case zqk4 => k_asm); (case zqk5 => k_asm); (case zqk6 => k_is); (case zqk7 => k_is); (case zqk8 => ktr_room); (case zqk9 => first | exact BindsTo.of_eq rfl | exact binds_K (by k_in) rfl (by k_is) rfl rfl rfl); (case zqc5 => decide); (case zqkB => exact locs rfl); (case zqc2 => exact rfl); (case zqc3 => exact rfl); (case zqc4 => exact rfl); k_whole)
  intro g' L' h' hg FG' F' N' B' X' T' l0
  (try dsimp only); (try k_fold)
  repeat' (first |  (k_unfold; (try dsimp only)) | (k_end; wrow_close) | (walk1 <;> (try dsimp only) <;> (try walk_at "mine split")) | (dsimp only; walk1) | (leave1; walk_say "STEP leave1"; try dsimp only) | fail "no step")
  all_goals first
  | (exfalso; omega)
  | exact tell_fin2 hret hg (by k_asm) (by k_asm) N (by k_subL) (⟨_, _, rfl, rfl, by assumption, by assumption⟩) (by k_subL) (by walk_at "mine ne")

@[reducible] noncomputable def tup5 (a b c d : Int) (t u v x : Tok) (e : Addr) : Obj := { cls := .type "tuple", data := .seq #[.int a t, .int b u, .int c v, .int d x, .ref e] 0 }

set_option maxRecDepth 100000 in
set_option maxHeartbeats 8000000 in
theorem stats_tell (w : World) (mean mg mb) (p q e f : Addr) (oe of : Obj) (a1 b1 c1 d1 a2 b2 c2 d2 : Int) (t1 t2 t3 t4 t5 t6 t7 t8 : Tok)
   (hse : Obj.IsDictOf (PySem.strKind PySem.Challenge.rw_pg0251_01.row.prog w) oe []) (hsf : Obj.IsDictOf (PySem.strKind PySem.Challenge.rw_pg0251_01.row.prog w) of []) (fse : PyProof.V.FlatPairs PyData.str [] []) (le : (e == sysModules) = false) (lf : (f == sysModules) = false) :
    Tell 3 w mean mg mb 80 [(p, tup5 a1 b1 c1 d1 t1 t2 t3 t4 e), (e, oe), (q, tup5 a2 b2 c2 d2 t5 t6 t7 t8 f), (f, of)] [.ref p, .ref q] (fun tl v => ∃ D D2 o u1 u2 u3 u4, v = .ref D ∧ tl = [(D, tup5 (a2 + a1) (b2 + b1) (c2 + c1) (d2 + d1) u1 u2 u3 u4 D2), (D2, o)] ∧ Obj.IsDictOf (PySem.strKind PySem.Challenge.rw_pg0251_01.row.prog w) o [] ∧ (D2 == sysModules) = false) := by
  w_on; unfold Tell; k_fill
  intro dp un gd cn cs aZ ccd cl outer A₀ base h₀ L m s Q E B F X N T hk hd hu hret
  refine wpAny_call ?_
  k_dflt (refine' code_tell ?zqk1 ?zqk2 ?zqk3 ?zqk4 ?zqk5 ?zqkA ?zqkF ?zqkK ?zqk6 ?zqk7 ?zqk8 ?zqk9 ?zqkB ?_ ?zqc2 ?zqc3 ?zqc4 ?zqc5; (case zqkA => exact rfl); (case zqkF => exact rfl); (case zqkK => assumption); (case zqk1 => k_asm); (case zqk2 => k_asm); (case zqk3 => k_asm); (case zqk4 => k_asm); (case zqk5 => k_asm); (case zqk6 => k_is); (case zqk7 => k_is); (case zqk8 => ktr_room); (case zqk9 => first | exact BindsTo.of_eq rfl | exact binds_K (by k_in) rfl (by k_is) rfl rfl rfl); (case zqc5 => decide); (case zqkB => exact locs rfl); (case zqc2 => exact rfl); (case zqc3 => exact rfl); (case zqc4 => exact rfl); k_whole)
  intro g' L' h' hg FG' F' N' B' X' T' l0
  (try dsimp only); (try k_fold)
  repeat' (first |  ((with_reducible show wpAny _ _ (call (Value.ref _) _ _) _ _ _); (k_here; k_dflt (refine' tell_use (callers_tell _ _ _ _ _ _ _ _ ?zqh1 ?zqh2 ?zqh3 ?zqh4 ?zqh5) ?zqB ?zqF ?zqX ?zqN ?zqT ?zqhk ?zqhd ?zqhu ?zqhs ?_; (case zqB => k_asm); (case zqF => k_asm); (case zqX => k_asm); (case zqN => k_asm); (case zqT => k_asm); (case zqhk => first | exact rfl | assumption); (case zqhd => ktr_room); (case zqhu => ktr_units); (case zqhs => k_subL); (case zqh1 => assumption); (case zqh2 => assumption); (case zqh3 => assumption); (case zqh4 => assumption); (case zqh5 => assumption); k_whole); intro r9 tl9 h9 tk9 p9 k9 F9 N9 e9; obtain ⟨D9, o9, r9e, tl9e, hs9, lo9⟩ := p9; subst r9e; subst tl9e; (try simp only [List.cons_append, List.nil_append] at N9); (try simp only [NeAlls, NeAll, and_true, true_and, and_assoc] at e9); (repeat (have e8 := e9.1; replace e9 := e9.2)); (try k_sweep); (try dsimp only); (try k_fold))) | (k_unfold; (try dsimp only)) | (k_end; wrow_close) | (walk1 <;> (try dsimp only) <;> (try walk_at "mine split")) | (dsimp only; walk1) | (leave1; walk_say "STEP leave1"; try dsimp only) | fail "no step")
  all_goals first
  | (exfalso; omega)
  | exact tell_fin2 hret hg (by k_asm) (by k_asm) N (by k_subL) (⟨_, _, _, _, _, _, _, rfl, rfl, by assumption, by assumption⟩) (by k_subL) (by walk_at "mine ne")
end
section
set_option maxRecDepth 100000 in
set_option maxHeartbeats 8000000 in
theorem conv_name (w : World) (mean mg mb) (o : Value) (txt : Str) (k k2 : Tok)
   (hn : NoFind codeNm txt) :
    TellA 2 w mean mg mb 119 [] [o, .str txt k] [(Str.ofString "name", .bool true)] (fun tl v => tl = [] ∧ v = .str txt k) := by
  w_on; unfold TellA; k_fill
  intro dp un gd cn cs aZ ccd cl outer A₀ base h₀ L m s Q E B F X N T hk hd hu hret
  k_dflt (refine' code_tell ?zqk1 ?zqk2 ?zqk3 ?zqk4 ?zqk5 ?zqkA ?zqkF ?zqkK ?zqk6 ?zqk7 ?zqk8 ?zqk9 ?zqkB ?_ ?zqc2 ?zqc3 ?zqc4 ?zqc5; (case zqkA => exact rfl); (case zqkF => exact rfl); (case zqkK => assumption); (case zqk1 => k_asm); (case zqk2 => k_asm); (case zqk3 => k_asm); (case zqk4 => k_asm); (case zqk5 => k_asm); (case zqk6 => k_is); (case zqk7 => k_is); (case zqk8 => ktr_room); (case zqk9 => first | exact BindsTo.of_eq rfl | exact binds_K (by k_in) rfl (by k_is) rfl rfl rfl); (case zqc5 => decide); (case zqkB => exact locs rfl); (case zqc2 => exact rfl); (case zqc3 => exact rfl); (case zqc4 => exact rfl); k_whole)
  intro g' L' h' hg FG' F' N' B' X' T' l0
  (try dsimp only); (try k_fold)
  repeat' (first |  ((with_reducible show wpAny _ _ (call (Value.builtin "re.Pattern.search") _ _) _ _ _); (k_here; (try dsimp only [List.cons_append, List.nil_append]); k_dflt (first | (refine' search_name ?zqk1 ?zqk2 ?zqk3 ?_; (case zqk1 => k_asm); (case zqk2 => k_asm); (case zqk3 => assumption)) | (refine' search_value ?zqk1 ?zqk2 ?zqk3 ?_; (case zqk1 => k_asm); (case zqk2 => k_asm); (case zqk3 => assumption))))) | ((k_here; (with_reducible show wpAny _ _ (getMethod (Value.ref _) (PySem.Str.ofString "search") _) _ _ _); k_dflt (refine' getMethod_search ?zqk1 ?zqk2 ?zqk3 ?zqk4 ?_; (case zqk1 => k_asm); (case zqk2 => k_asm); (case zqk3 => exact rfl); (case zqk4 => exact rfl)))) | (k_unfold; (try dsimp only)) | (k_end; wrow_close) | (walk1 <;> (try dsimp only) <;> (try walk_at "mine split")) | (dsimp only; walk1) | (leave1; walk_say "STEP leave1"; try dsimp only) | fail "no step")
  all_goals first
  | (exfalso; omega)
  | exact tell_fin2 hret hg (by k_asm) (by k_asm) N (by k_subL) (⟨rfl, rfl⟩) (by k_subL) (by walk_at "mine ne")

set_option maxRecDepth 100000 in
set_option maxHeartbeats 8000000 in
theorem conv_value (w : World) (mean mg mb) (o : Value) (txt : Str) (k k2 : Tok)
   (hn : NoFind codeVl txt) :
    TellA 2 w mean mg mb 119 [] [o, .str txt k] [(Str.ofString "name", .bool false)] (fun tl v => tl = [] ∧ v = .str txt k) := by
  w_on; unfold TellA; k_fill
  intro dp un gd cn cs aZ ccd cl outer A₀ base h₀ L m s Q E B F X N T hk hd hu hret
  k_dflt (refine' code_tell ?zqk1 ?zqk2 ?zqk3 ?zqk4 ?zqk5 ?zqkA ?zqkF ?zqkK ?zqk6 ?zqk7 ?zqk8 ?zqk9 ?zqkB ?_ ?zqc2 ?zqc3 ?zqc4 ?zqc5; (case zqkA => exact rfl); (case zqkF => exact rfl); (case zqkK => assumption); (case zqk1 => k_asm); (case zqk2 => k_asm); (case zqk3 => k_asm); (case zqk4 => k_asm); (case zqk5 => k_asm); (case zqk6 => k_is); (case zqk7 => k_is); (case zqk8 => ktr_room); (case zqk9 => first | exact BindsTo.of_eq rfl | exact binds_K (by k_in) rfl (by k_is) rfl rfl rfl); (case zqc5 => decide); (case zqkB => exact locs rfl); (case zqc2 => exact rfl); (case zqc3 => exact rfl); (case zqc4 => exact rfl); k_whole)
  intro g' L' h' hg FG' F' N' B' X' T' l0
  (try dsimp only); (try k_fold)
  repeat' (first |  ((with_reducible show wpAny _ _ (call (Value.builtin "re.Pattern.search") _ _) _ _ _); (k_here; (try dsimp only [List.cons_append, List.nil_append]); k_dflt (first | (refine' search_name ?zqk1 ?zqk2 ?zqk3 ?_; (case zqk1 => k_asm); (case zqk2 => k_asm); (case zqk3 => assumption)) | (refine' search_value ?zqk1 ?zqk2 ?zqk3 ?_; (case zqk1 => k_asm); (case zqk2 => k_asm); (case zqk3 => assumption))))) | ((k_here; (with_reducible show wpAny _ _ (getMethod (Value.ref _) (PySem.Str.ofString "search") _) _ _ _); k_dflt (refine' getMethod_search ?zqk1 ?zqk2 ?zqk3 ?zqk4 ?_; (case zqk1 => k_asm); (case zqk2 => k_asm); (case zqk3 => exact rfl); (case zqk4 => exact rfl)))) | (k_unfold; (try dsimp only)) | (k_end; wrow_close) | (walk1 <;> (try dsimp only) <;> (try walk_at "mine split")) | (dsimp only; walk1) | (leave1; walk_say "STEP leave1"; try dsimp only) | fail "no step")
  all_goals first
  | (exfalso; omega)
  | exact tell_fin2 hret hg (by k_asm) (by k_asm) N (by k_subL) (⟨rfl, rfl⟩) (by k_subL) (by walk_at "mine ne")
end
local macro_rules | `(tactic| walk_at "ite") => `(tactic| ((with_reducible refine ite_splitE (fun y' => ?_) (fun y' => ?_)) <;> (try dsimp only)))
local macro_rules | `(tactic| walk_at "ite") => `(tactic| ((with_reducible refine ite_splitH (fun y' => ?_) (fun y' => ?_)) <;> (try dsimp only)))
section
theorem rowE000 {h1 h2 h3 : UInt64} (a : HidP (decide (cmpF h1 h2 ≤ 0) = false)) (b : HidP (decide (cmpF h2 h3 ≤ 0) = false)) (c : HidP (decide (cmpF h1 h3 ≤ 0) = false)) : gapF h3 h2 h1 = canF h1 h2 h3 := by
  have a := a.out; have b := b.out; have c := c.out
  simp only [decide_eq_true_eq, decide_eq_false_iff_not] at a b c
  unfold canF ins3; simp only [a, b, c, if_true, if_false]
theorem rowE001 {h1 h2 h3 : UInt64} (a : HidP (decide (cmpF h1 h2 ≤ 0) = false)) (b : HidP (decide (cmpF h2 h3 ≤ 0) = false)) (c : HidP (decide (cmpF h1 h3 ≤ 0) = true)) : gapF h2 h3 h1 = canF h1 h2 h3 := by
  have a := a.out; have b := b.out; have c := c.out
  simp only [decide_eq_true_eq, decide_eq_false_iff_not] at a b c
  unfold canF ins3; simp only [a, b, c, if_true, if_false]
theorem rowE010 {h1 h2 h3 : UInt64} (a : HidP (decide (cmpF h1 h2 ≤ 0) = false)) (b : HidP (decide (cmpF h2 h3 ≤ 0) = true)) (c : HidP (decide (cmpF h1 h3 ≤ 0) = false)) : gapF h2 h3 h1 = canF h1 h2 h3 := by
  have a := a.out; have b := b.out; have c := c.out
  simp only [decide_eq_true_eq, decide_eq_false_iff_not] at a b c
  unfold canF ins3; simp only [a, b, c, if_true, if_false]
theorem rowE011 {h1 h2 h3 : UInt64} (a : HidP (decide (cmpF h1 h2 ≤ 0) = false)) (b : HidP (decide (cmpF h2 h3 ≤ 0) = true)) (c : HidP (decide (cmpF h1 h3 ≤ 0) = true)) : gapF h2 h1 h3 = canF h1 h2 h3 := by
  have a := a.out; have b := b.out; have c := c.out
  simp only [decide_eq_true_eq, decide_eq_false_iff_not] at a b c
  unfold canF ins3; simp only [a, b, c, if_true, if_false]
theorem rowE100 {h1 h2 h3 : UInt64} (a : HidP (decide (cmpF h1 h2 ≤ 0) = true)) (b : HidP (decide (cmpF h1 h3 ≤ 0) = false)) (c : HidP (decide (cmpF h2 h3 ≤ 0) = false)) : gapF h3 h1 h2 = canF h1 h2 h3 := by
  have a := a.out; have b := b.out; have c := c.out
  simp only [decide_eq_true_eq, decide_eq_false_iff_not] at a b c
  unfold canF ins3; simp only [a, b, c, if_true, if_false]
theorem rowE101 {h1 h2 h3 : UInt64} (a : HidP (decide (cmpF h1 h2 ≤ 0) = true)) (b : HidP (decide (cmpF h1 h3 ≤ 0) = false)) (c : HidP (decide (cmpF h2 h3 ≤ 0) = true)) : gapF h1 h3 h2 = canF h1 h2 h3 := by
  have a := a.out; have b := b.out; have c := c.out
  simp only [decide_eq_true_eq, decide_eq_false_iff_not] at a b c
  unfold canF ins3; simp only [a, b, c, if_true, if_false]
theorem rowE110 {h1 h2 h3 : UInt64} (a : HidP (decide (cmpF h1 h2 ≤ 0) = true)) (b : HidP (decide (cmpF h1 h3 ≤ 0) = true)) (c : HidP (decide (cmpF h2 h3 ≤ 0) = false)) : gapF h1 h3 h2 = canF h1 h2 h3 := by
  have a := a.out; have b := b.out; have c := c.out
  simp only [decide_eq_true_eq, decide_eq_false_iff_not] at a b c
  unfold canF ins3; simp only [a, b, c, if_true, if_false]
theorem rowE111 {h1 h2 h3 : UInt64} (a : HidP (decide (cmpF h1 h2 ≤ 0) = true)) (b : HidP (decide (cmpF h1 h3 ≤ 0) = true)) (c : HidP (decide (cmpF h2 h3 ≤ 0) = true)) : gapF h1 h2 h3 = canF h1 h2 h3 := by
  have a := a.out; have b := b.out; have c := c.out
  simp only [decide_eq_true_eq, decide_eq_false_iff_not] at a b c
  unfold canF ins3; simp only [a, b, c, if_true, if_false]

theorem canY {v1 v2 v3 : Value} {s1 s2 s3 : UInt64} {c : Bool} (h : HidP ((selL [v1, v2, v3] [Float64.cmp s1 0 == some .eq, Float64.cmp s2 0 == some .eq, Float64.cmp s3 0 == some .eq]).toArray.size ≠ 0)) : (Value.bool true) = .bool (zeroS s1 || zeroS s2 || zeroS s3 || c) := by
  have h := h.out
  rw [List.size_toArray, sel3_any] at h
  unfold zeroS
  rw [h]; rfl
theorem canN {v1 v2 v3 : Value} {s1 s2 s3 : UInt64} {h1 h2 h3 ha hb hc : UInt64} (h : HidP (¬ (selL [v1, v2, v3] [Float64.cmp s1 0 == some .eq, Float64.cmp s2 0 == some .eq, Float64.cmp s3 0 == some .eq]).toArray.size ≠ 0)) (e : HidP (gapF ha hb hc = canF h1 h2 h3)) :
    Value.bool (Float64.cmp (maxB (Float64.sub hb ha) (Float64.sub hc hb) (Float64.sub (Float64.add ha 4607182418800017408) hc)) 4602687826371901653 == some .lt) = .bool (zeroS s1 || zeroS s2 || zeroS s3 || canF h1 h2 h3) := by
  have h := h.out
  have e := e.out
  rw [List.size_toArray, sel3_any, Bool.not_eq_true] at h
  unfold zeroS
  rw [h, ← e]; rfl
inductive RowJ (h₀ : Heap) (L : Addr) (m : Str → Option Value) (R : Addr) (sub : List (Addr × Obj)) (s : Shared) (h1 h2 h3 : UInt64) : Flow → Shared → Prop
  | mk {h' : Heap} {tk : Nat} {all : List (Addr × Obj)} {a b c : Addr} {ha hb hc sa sb sc : UInt64} {xa xb xc : Int} {u1 u2 u3 u4 u5 u6 u7 u8 u9 : Tok} {k : Nat} (F : Fr h₀ L h' m) (N : News h₀ L h' all) (hs : SubL ((R, ({ cls := .type "list", data := .seq #[.ref a, .ref b, .ref c] k } : Obj)) :: (a, hsv ha sa xa u1 u2 u3) :: (b, hsv hb sb xb u4 u5 u6) :: (c, hsv hc sc xc u7 u8 u9) :: sub) all) (e : gapF ha hb hc = canF h1 h2 h3) : RowJ h₀ L m R sub s h1 h2 h3 .next { s with heap := h', toks := tk }
theorem cut_row {M : Model} {A : Around} {t : Sem Flow} {E : Value → Shared → Prop} {s : Shared} {Q : Flow → Shared → Prop} {h₀ L m} {R : Addr} (sub : List (Addr × Obj)) (h1 h2 h3 : UInt64)
    (F : Fr h₀ L s.heap m) (hm : m "row" = some (.ref R)) (walk : wpAny M A t (RowJ h₀ L m R sub s h1 h2 h3) E s)
    (c : ∀ (a b c : Addr) (ha hb hc sa sb sc : UInt64) (xa xb xc : Int) (u1 u2 u3 u4 u5 u6 u7 u8 u9 : Tok) (k : Nat) h' tk, Fr h₀ L h' m → News h₀ L h' ((R, ({ cls := .type "list", data := .seq #[.ref a, .ref b, .ref c] k } : Obj)) :: (a, hsv ha sa xa u1 u2 u3) :: (b, hsv hb sb xb u4 u5 u6) :: (c, hsv hc sc xc u7 u8 u9) :: sub) → HidP (gapF ha hb hc = canF h1 h2 h3) → Q .next { s with heap := h', toks := tk }) : wpAny M A t Q E s := by
  refine wpAny_mono walk (fun fl s' j => ?_) fun _ _ e => e
  cases j with
  | mk F N hs e => exact c _ _ _ _ _ _ _ _ _ _ _ _ _ _ _ _ _ _ _ _ _ _ _ _ F (fun p hp => N p (hs.mem p hp)) ⟨e⟩
local macro_rules | `(tactic| walk_at "CompSrcT") => `(tactic| (k_here; k_dflt (first | refine' srcflt_3 (by rfl) (by k_asm) (by k_asm) (by k_mem) ?_ ?_ ?_ ?_ | refine' srcflt_2 (by rfl) (by k_asm) (by k_asm) (by k_mem) ?_ ?_ ?_ ?_ ?_ ?_ | refine' srcflt_1 (by rfl) (by k_asm) (by k_asm) (by k_mem) ?_ ?_ ?_)))

set_option maxRecDepth 100000 in
set_option maxHeartbeats 8000000 in
theorem can_tell (w : World) (mean mg mb) (l : Addr) (nl : Nat) (p q r : Addr) (h1 s1 h2 s2 h3 s3 : UInt64) (x1 x2 x3 : Int) (t1 t2 t3 t4 t5 t6 t7 t8 t9 : Tok)
    :
    Tell 3 w mean mg mb 241 [(l, { cls := .type "list", data := .seq #[.ref p, .ref q, .ref r] nl }), (p, hsv h1 s1 x1 t1 t2 t3), (q, hsv h2 s2 x2 t4 t5 t6), (r, hsv h3 s3 x3 t7 t8 t9)] [.ref l] (fun tl v => tl = [] ∧ v = .bool (zeroS s1 || zeroS s2 || zeroS s3 || canF h1 h2 h3)) := by
  w_on; unfold Tell; k_fill
  intro dp un gd cn cs aZ ccd cl outer A₀ base h₀ L m s Q E B F X N T hk hd hu hret
  refine wpAny_call ?_
  (k_dflt (refine' code_tellC ?zqk1 ?zqk2 ?zqk3 ?zqk4 ?zqk5 ?zqkA ?zqkF ?zqkK ?zqk6 ?zqk7 ?zqk8 ?zqk9 ?zqkB ?zqkD ?_ ?zqc2 ?zqc3 ?zqc4; (case zqkA => exact rfl); (case zqkF => exact rfl); (case zqkK => assumption); (case zqk1 => k_asm); (case zqk2 => k_asm); (case zqk3 => k_asm); (case zqk4 => k_asm); (case zqk5 => k_asm); (case zqk6 => k_is); (case zqk7 => k_is); (case zqk8 => ktr_room); (case zqk9 => first | exact BindsTo.of_eq rfl | exact binds_K (by k_in) rfl (by k_is) rfl rfl rfl); (case zqkB => exact rfl); (case zqkD => decide +kernel); (case zqc2 => exact rfl); (case zqc3 => exact rfl); (case zqc4 => exact rfl); k_whole))
  intro g' L' h' tkc cells' hg FG' F' N' Y' B' X' T' l0
  k_cells Y'
  (have n8 := neCell0 l0); (have n9 := neCell1 l0); (try simp only [NeAll, and_true] at n8 n9); (try walk_at "mine split"); (try k_lt l0)
  (try simp only [List.cons_append, List.nil_append] at N')
  (try dsimp only); (try k_fold)
  repeat' (first | (k_here; (with_reducible show wpAny _ _ (exec (Stmt.For _ _ _ _ _) _) _ _ _); (fail_if_success (with_reducible show wpAny _ _ _ (fun _ _ => RowJ _ _ _ _ _ _ _ _ _ _ _) _ _)); (fail_if_success (with_reducible show wpAny _ _ _ (RowJ _ _ _ _ _ _ _ _ _) _ _)); k_dflt (refine' cut_row ([(l, { cls := .type "list", data := .seq #[.ref p, .ref q, .ref r] nl }), (p, hsv h1 s1 x1 t1 t2 t3), (q, hsv h2 s2 x2 t4 t5 t6), (r, hsv h3 s3 x3 t7 t8 t9)] : List (Addr × Obj)) h1 h2 h3 ?F ?m1 ?walk ?c1; (case F => k_asm); (case m1 => exact rfl)); (case' c1 => intro a' b' c' ha' hb' hc' sa' sb' sc' xa' xb' xc' u1' u2' u3' u4' u5' u6' u7' u8' u9' k' h' tk' F' N' y'; (try k_sweep))) |  ((with_reducible show wpAny _ _ (call (Value.ref _) _ _) _ _ _); (k_here; k_dflt (refine' tell_use (cmp_tell _ _ _ _ _ _ _ _ _ _ _ _ _ _ _ _ _ _ _ _ _ _ _ _ _ _ ?zqnn0) ?zqB ?zqF ?zqX ?zqN ?zqT ?zqhk ?zqhd ?zqhu ?zqhs ?_; (case zqB => k_asm); (case zqF => k_asm); (case zqX => k_asm); (case zqN => k_asm); (case zqT => k_asm); (case zqhk => first | exact rfl | assumption); (case zqhd => ktr_room); (case zqhu => ktr_units); (case zqhs => k_subL); (case zqnn0 => exact 0); k_whole); intro r9 tl9 h9 tk9 p9 k9 F9 N9 e9; obtain ⟨tl9e, t9, r9e⟩ := p9; subst r9e; subst tl9e; (try simp only [List.cons_append, List.nil_append] at N9); (try simp only [NeAlls, NeAll, and_true, true_and, and_assoc] at e9); (repeat (have e8 := e9.1; replace e9 := e9.2)); (try k_sweep); (try dsimp only); (try k_fold))) | ((with_reducible show RowJ _ _ _ _ _ _ _ _ _ _ _); k_dflt (refine' RowJ.mk ?zqF ?zqN ?zqhs ?zqe; (case zqe => first | exact rowE000 (by with_reducible assumption) (by with_reducible assumption) (by with_reducible assumption) | exact rowE001 (by with_reducible assumption) (by with_reducible assumption) (by with_reducible assumption) | exact rowE010 (by with_reducible assumption) (by with_reducible assumption) (by with_reducible assumption) | exact rowE011 (by with_reducible assumption) (by with_reducible assumption) (by with_reducible assumption) | exact rowE100 (by with_reducible assumption) (by with_reducible assumption) (by with_reducible assumption) | exact rowE101 (by with_reducible assumption) (by with_reducible assumption) (by with_reducible assumption) | exact rowE110 (by with_reducible assumption) (by with_reducible assumption) (by with_reducible assumption) | exact rowE111 (by with_reducible assumption) (by with_reducible assumption) (by with_reducible assumption)); (case zqF => k_asm); (case zqN => k_asm); (case zqhs => k_subL))) | ((with_reducible show wpAny _ _ (call (Value.builtin "max") _ _) _ _ _); (k_here; (with_reducible show wpAny _ _ (call (Value.builtin _) [Value.ref _]) _ _ _); k_dflt (refine' max3_floats ?zqk0 ?zqk1 ?zqk2 ?zqk3 ?_; (case zqk0 => exact rfl); (case zqk1 => k_asm); (case zqk2 => k_asm); (case zqk3 => k_mem); k_whole); intro t' h' tk' F' N'; (try k_sweep))) | ((with_reducible show TestEnd _ _ _ _ _ _ _ _); k_dflt (exact TestEnd.intro rfl (by k_asm) (by k_asm) (by k_subL))) | ((with_reducible show wpAny _ _ (exec (Stmt.For (Expr.Name _ _) (Expr.Name _ _) _ _ _) _) _ _ _); (k_here; (rename Fr _ _ _ _ => lF'); (with_unfolding_all refine' For_turns lF' ?_; k_whole))) | ((with_reducible show wpAny _ _ (call (Value.builtin "list.insert") _ _) _ _ _); ((with_reducible show wpAny _ _ (call _ (_ ++ _)) _ _ _); dsimp only [List.cons_append, List.nil_append])) | ((with_reducible show wpAny _ _ (subscriptTail _ _ (Value.ref _) _) _ _ _); (k_here; (with_reducible show wpAny _ _ (subscriptTail _ _ (Value.ref _) (Value.int _ _)) _ _ _); k_dflt (refine' sub_any ?zqk1 ?zqk2 ?zqkh ?zqk3 ?zqk4 ?zqk5 ?_; (case zqk1 => k_asm); (case zqk2 => k_mem); (case zqkh => first | exact .inr ⟨_, rfl⟩ | exact .inl ⟨_, rfl⟩); (case zqk3 => decide); (case zqk4 => decide); (case zqk5 => rfl)))) | ((with_reducible show wpAny _ _ (call (Value.builtin "len") _ _) _ _ _); (k_here; (with_reducible show wpAny _ _ (call (Value.builtin _) [Value.ref _]) _ _ _); k_dflt (refine' len_lst ?zqk1 ?zqk2 ?zqk3 ?_; (case zqk1 => k_asm); (case zqk2 => k_mem); (case zqk3 => decide)); dsimp only [List.length_cons, List.length_nil])) | ((with_reducible show wpAny _ _ (compareOp CmpOp.NotEq (Value.ref _) (Value.ref _)) _ _ _); (k_here; (with_reducible show wpAny _ _ (compareOp CmpOp.NotEq (Value.ref _) (Value.ref _)) _ _ _); k_dflt (refine' ne_nil ?zqk1 ?zqk2 ?zqk3 ?zqk4 ?_; (case zqk1 => k_asm); (case zqk2 => k_mem); (case zqk3 => k_mem); (case zqk4 => first | k_units | ktr_units); k_whole); (try simp only [List.size_toArray, List.length_cons, List.length_nil, ne_eq, Nat.add_eq_zero_iff, one_ne_zero, and_false, not_false_eq_true, decide_true, not_true_eq_false, decide_false]); (try dsimp only); (try k_sweep))) | ((with_reducible show wpAny _ _ (call (Value.builtin "max") _ _) _ _ _); (k_here; (with_reducible show wpAny _ _ (call (Value.builtin _) [Value.ref _]) _ _ _); k_dflt (refine' max3_list ?zqk0 ?zqk1 ?zqk2 ?zqk3 ?_; (case zqk0 => exact rfl); (case zqk1 => k_asm); (case zqk2 => k_asm); (case zqk3 => k_mem); k_whole); intro M' t' h' tk' F' N' m1' m2' m3' m4'; (try k_sweep))) | ((with_reducible show wpAny _ _ (call (Value.ref _) _ _) _ _ _); (k_here; k_dflt (refine' call_cls ?zqk1 ?zqk2 ?zqk3 ?zqk4 ?zqk5 ?zqk6 ?_; (case zqk1 => k_asm); (case zqk2 => k_asm); (case zqk3 => k_asm); (case zqk4 => k_is); (case zqk5 => k_is); (case zqk6 => k_is); k_whole; intro x' d' h' F' N' l1 l2; (have n8 := NeAll.of (fun q hq => Nat.ne_of_gt (l1 q hq))); (have n9 := NeAll.of (fun q hq => Nat.ne_of_gt (Nat.lt_trans (l1 q hq) l2))); (have n7 := Nat.ne_of_gt l2); (try simp only [NeAll, and_true] at n8 n9); (try walk_at "mine split"); (try k_lt l1); (try k_sweep); k_enter))) | (k_dflt ((with_reducible refine fun (g' : Heap) => ?_); unfold FltTurn; intro I' oI' C' oC' D' m' ys' h' tk' E' hC' hx' F' N' off' ne'); (try simp only [LCg.Off3, and_true] at off'); (try walk_at "mine split")) | (with_reducible refine fun (g' : Heap) (y1' : HidP _) (y2' : HidP _) => ?_) | (with_reducible refine fun (g' : Heap) (y1' : HidP _) => ?_) | (with_reducible refine fun (g' : Heap) => ?_) | (k_unfold; (try dsimp only)) | (k_end; wrow_close) | (walk1 <;> (try dsimp only) <;> (try walk_at "mine split")) | (dsimp only; walk1) | (leave1; walk_say "STEP leave1"; try dsimp only) | fail "no step")
  all_goals first
  | exact tell_fin2 hret hg (by k_asm) (by k_asm) N (by k_subL) (⟨rfl, canY (by with_reducible assumption)⟩) (by k_subL) (by walk_at "mine ne")
  | exact tell_fin2 hret hg (by k_asm) (by k_asm) N (by k_subL) (⟨rfl, canN (by with_reducible assumption) (by with_reducible assumption)⟩) (by k_subL) (by walk_at "mine ne")
end
section
theorem oppY {a b c d e f : Int} (h1 : HidP (spanZ a b c d e f = 0)) (h2 : HidP ((a - c) * (d - f) + (b - c) * (e - f) < 0)) : OppZ a b c d e f := ⟨h1.out, h2.out⟩
theorem oppN1 {a b c d e f : Int} (h1 : HidP (¬ spanZ a b c d e f = 0)) : ¬ OppZ a b c d e f := fun q => h1.out q.1
theorem oppN2 {a b c d e f : Int} (h1 : HidP (¬ (a - c) * (d - f) + (b - c) * (e - f) < 0)) : ¬ OppZ a b c d e f := fun q => h1.out q.2
section
variable {a1 b1 c1 a2 b2 c2 a3 b3 c3 : Int}
theorem plainS (h : SameZ (spanZ a2 b2 c2 a3 b3 c3) (spanZ a3 b3 c3 a1 b1 c1) (spanZ a1 b1 c1 a2 b2 c2)) : (true = true) ↔ PlainP a1 b1 c1 a2 b2 c2 a3 b3 c3 := ⟨fun _ => .inl h, fun _ => rfl⟩
theorem plainO1 (h : OppZ a2 b2 c2 a3 b3 c3) : (true = true) ↔ PlainP a1 b1 c1 a2 b2 c2 a3 b3 c3 := ⟨fun _ => .inr (.inl h), fun _ => rfl⟩
theorem plainO2 (h : OppZ a3 b3 c3 a1 b1 c1) : (true = true) ↔ PlainP a1 b1 c1 a2 b2 c2 a3 b3 c3 := ⟨fun _ => .inr (.inr (.inl h)), fun _ => rfl⟩
theorem plainO3 (h : OppZ a1 b1 c1 a2 b2 c2) : (true = true) ↔ PlainP a1 b1 c1 a2 b2 c2 a3 b3 c3 := ⟨fun _ => .inr (.inr (.inr (.inl h))), fun _ => rfl⟩
theorem plainN {v1 v2 v3 : Value} (n1 : ¬ SameZ (spanZ a2 b2 c2 a3 b3 c3) (spanZ a3 b3 c3 a1 b1 c1) (spanZ a1 b1 c1 a2 b2 c2)) (n2 : ¬ OppZ a2 b2 c2 a3 b3 c3) (n3 : ¬ OppZ a3 b3 c3 a1 b1 c1) (n4 : ¬ OppZ a1 b1 c1 a2 b2 c2) :
    (decide ((selL [v1, v2, v3] [decide (a1 = b1 ∧ b1 = c1), decide (a2 = b2 ∧ b2 = c2), decide (a3 = b3 ∧ b3 = c3)]).toArray.size ≠ 0) = true) ↔ PlainP a1 b1 c1 a2 b2 c2 a3 b3 c3 := by
  rw [List.size_toArray, decide_eq_true_eq, sel3_any]
  unfold PlainP
  simp only [n1, n2, n3, n4, false_or, Bool.or_eq_true, decide_eq_true_eq, or_assoc]
end
local macro_rules | `(tactic| walk_at "CompSrcT") => `(tactic| (k_here; k_dflt (refine' srcflt_g (by rfl) (by k_asm) (by k_asm) (by k_mem) (by k_mem) (by k_mem) (by k_mem) ?_ ?_ ?_ ?_)))

noncomputable def plB (o : Option Obj) : List Stmt := match o with
  | some ⟨_, _, .func fd, _⟩ => (match fd.body with | .stmts b => b | _ => [])
  | _ => []
noncomputable def plS (o : Option Obj) : Scope := match o with
  | some ⟨_, _, .func fd, _⟩ => fd.scope
  | _ => { kind := .function, names := [], isGenerator := false, isCoroutine := false }
noncomputable def plF (s : Stmt) : Stmt := match s with
  | .For _ _ b _ _ => b.headD (.Pass default)
  | _ => .Pass default
noncomputable def plO (w : World) : Option Obj := (Mine.hd.heap_1 w.params).lookup 246
noncomputable abbrev plE (w : World) (L : Addr) : Env := envOf (Str.ofString "_law_plain") (plS (plO w)) L 246 (.ref 245)
noncomputable def plT (w : World) : Stmt := plF ((plB (plO w)).getD 3 (.Pass default))

set_option maxRecDepth 100000 in
set_option maxHeartbeats 8000000 in
theorem oppturn (w : World) (mean mg mb) (p q : Addr) (a b c d e f : Int) (t1 t2 t3 t4 t5 t6 : Tok) (led : List (Addr × Obj)) (dp un : Nat) (gd : Option (List Code)) (cn : Str) (cs : Scope) (L0 aZ : Addr) (ccd : Value) (cl : List (Str × Addr)) (outer : List Env) (base : Heap) (h₀ : Heap) (L : Addr) (m : Str → Option Value)
   (h1 : 0 ≤ a ∧ a ≤ 8) (h2 : 0 ≤ b ∧ b ≤ 8) (h3 : 0 ≤ c ∧ c ≤ 8) (h4 : 0 ≤ d ∧ d ≤ 8) (h5 : 0 ≤ e ∧ e ≤ 8) (h6 : 0 ≤ f ∧ f ≤ 8) (mp : m "one" = some (.ref p)) (mq : m "other" = some (.ref q)) (m1 : (p, tup3 a b c t1 t2 t3) ∈ led) (m2 : (q, tup3 d e f t4 t5 t6) ∈ led) (s : Shared) (E : Value → Shared → Prop)
   (B : Below (ktrTop dp un gd cn cs L0 aZ ccd cl outer) base (envX cn cs L0 aZ ccd cl :: outer) h₀) (X : (Mine.hd.heap_1 w.params).In h₀) (T : Top VW LO mean mg mb h₀) (F : Fr h₀ L s.heap m) (N : News h₀ L s.heap led)
   (hk : cs.kind = .function) (hd : dp + 2 * 3 < recursionLimit) (hu : un + 20 * 3 < cLine) :
    wpAny (model PySem.Challenge.rw_pg0251_01.row.prog w) ((ktrTop dp un gd cn cs L0 aZ ccd cl outer).deeper (plE w L)) (exec (plT w) (plE w L)) (JQ h₀ L m led s (OppZ a b c d e f)) E s := by
  w_on; revert X; k_fill; intro X
  k_dflt (show wpAny _ (Around.deeper _ (envOf _ (Scope.mk _ _ _ _ _) _ _ _)) (exec (.If _ _ _ _) (envOf _ (Scope.mk _ _ _ _ _) _ _ _)) _ _ _)
  (try dsimp only); (try k_fold)
  repeat' (first | ((with_reducible show wpAny _ _ (eval (Expr.Name _ _) _) _ _ _); (k_here; k_dflt (refine' nameX_L ?zqk1 ?zqk2 ?_; (case zqk1 => k_asm); (case zqk2 => assumption)))) | ((with_reducible show wpAny _ _ (exec (Stmt.For (Expr.Name _ _) (Expr.Name _ _) _ _ _) _) _ _ _); (k_here; (rename Fr _ _ _ _ => lF'); (with_unfolding_all refine' For_turns lF' ?_; k_whole))) | ((with_reducible show wpAny _ _ (call (Value.builtin "list.insert") _ _) _ _ _); ((with_reducible show wpAny _ _ (call _ (_ ++ _)) _ _ _); dsimp only [List.cons_append, List.nil_append])) | ((with_reducible show wpAny _ _ (subscriptTail _ _ (Value.ref _) _) _ _ _); (k_here; (with_reducible show wpAny _ _ (subscriptTail _ _ (Value.ref _) (Value.int _ _)) _ _ _); k_dflt (refine' sub_any ?zqk1 ?zqk2 ?zqkh ?zqk3 ?zqk4 ?zqk5 ?_; (case zqk1 => k_asm); (case zqk2 => first | assumption | k_mem); (case zqkh => first | exact .inr ⟨_, rfl⟩ | exact .inl ⟨_, rfl⟩); (case zqk3 => decide); (case zqk4 => decide); (case zqk5 => rfl)))) | ((with_reducible show JQ _ _ _ _ _ _ _ _); k_dflt (first | (refine' JQ.yes ?zqF ?zqN ?zqp; (case zqp => with_reducible first | exact sameY1 (by with_reducible assumption) (by with_reducible assumption) (by with_reducible assumption) (by with_reducible assumption) | exact sameY2 (by with_reducible assumption) (by with_reducible assumption) (by with_reducible assumption) (by with_reducible assumption) | exact oppY (by with_reducible assumption) (by with_reducible assumption)); (case zqF => k_asm); (case zqN => k_asm)) | (refine' JQ.no ?zqF ?zqN ?zqp; (case zqp => with_reducible first | exact sameNo (by with_reducible assumption) (by with_reducible assumption) (by with_reducible assumption) (by with_reducible assumption) (by with_reducible assumption) (by with_reducible assumption) | exact oppN1 (by with_reducible assumption) | exact oppN2 (by with_reducible assumption)); (case zqF => k_asm); (case zqN => k_asm)))) | ((with_reducible show wpAny _ _ (call (Value.ref _) _ _) _ _ _); (k_here; k_dflt (refine' tell_use (span_tell _ _ _ _ _ _ _ _ _ _ _ _ _ _ _ _ _ _ ?zqh1 ?zqh2 ?zqh3 ?zqh4 ?zqh5 ?zqh6) ?zqB ?zqF ?zqX ?zqN ?zqT ?zqhk ?zqhd ?zqhu ?zqhs ?_; (case zqB => k_asm); (case zqF => k_asm); (case zqX => k_asm); (case zqN => k_asm); (case zqT => k_asm); (case zqhk => first | exact rfl | assumption); (case zqhd => ktr_room); (case zqhu => ktr_units); (case zqhs => exact And.intro (by assumption) (And.intro (by assumption) trivial)); (case zqh1 => first | assumption | omega); (case zqh2 => first | assumption | omega); (case zqh3 => first | assumption | omega); (case zqh4 => first | assumption | omega); (case zqh5 => first | assumption | omega); (case zqh6 => first | assumption | omega); k_whole); intro r9 tl9 h9 tk9 p9 k9 F9 N9 e9; obtain ⟨tl9e, t9, r9e⟩ := p9; subst r9e; subst tl9e; (try simp only [List.cons_append, List.nil_append] at N9); (try simp only [NeAlls, NeAll, and_true, true_and, and_assoc] at e9); (repeat (have e8 := e9.1; replace e9 := e9.2)); (try k_sweep); (try dsimp only); (try k_fold))) | ((with_reducible show wpAny _ _ (compareOp CmpOp.NotEq (Value.ref _) (Value.ref _)) _ _ _); (k_here; (with_reducible show wpAny _ _ (compareOp CmpOp.NotEq (Value.ref _) (Value.ref _)) _ _ _); k_dflt (refine' ne_nil ?zqk1 ?zqk2 ?zqk3 ?zqk4 ?_; (case zqk1 => k_asm); (case zqk2 => k_mem); (case zqk3 => k_mem); (case zqk4 => first | k_units | ktr_units); k_whole); (try simp only [List.size_toArray, List.length_cons, List.length_nil, ne_eq, Nat.add_eq_zero_iff, one_ne_zero, and_false, not_false_eq_true, decide_true, not_true_eq_false, decide_false]); (try dsimp only); (try k_sweep))) | ((with_reducible show wpAny _ _ (call (Value.builtin "min") _ _) _ _ _); (k_here; (with_reducible show wpAny _ _ (call (Value.builtin _) [Value.ref _]) _ _ _); k_dflt (refine' min3_list ?zqk0 ?zqk1 ?zqk2 ?zqk3 ?_; (case zqk0 => exact rfl); (case zqk1 => k_asm); (case zqk2 => k_asm); (case zqk3 => k_mem); k_whole); intro M' t' h' tk' F' N' m1' m2' m3' m4'; (try k_sweep))) | ((with_reducible show wpAny _ _ (call (Value.builtin "max") _ _) _ _ _); (k_here; (with_reducible show wpAny _ _ (call (Value.builtin _) [Value.ref _]) _ _ _); k_dflt (refine' max3_list ?zqk0 ?zqk1 ?zqk2 ?zqk3 ?_; (case zqk0 => exact rfl); (case zqk1 => k_asm); (case zqk2 => k_asm); (case zqk3 => k_mem); k_whole); intro M' t' h' tk' F' N' m1' m2' m3' m4'; (try k_sweep))) | (k_unfold; (try dsimp only)) | (k_end; wrow_close) | (walk1 <;> (try dsimp only) <;> (try walk_at "mine split")) | (dsimp only; walk1) | (leave1; walk_say "STEP leave1"; try dsimp only) | fail "no step")

set_option maxRecDepth 100000 in
set_option maxHeartbeats 8000000 in
theorem plain_tell (w : World) (mean mg mb) (l : Addr) (nl : Nat) (p q r : Addr) (a1 b1 c1 a2 b2 c2 a3 b3 c3 : Int) (t1 t2 t3 t4 t5 t6 t7 t8 t9 : Tok)
   (h1 : 0 ≤ a1 ∧ a1 ≤ 8) (h2 : 0 ≤ b1 ∧ b1 ≤ 8) (h3 : 0 ≤ c1 ∧ c1 ≤ 8) (h4 : 0 ≤ a2 ∧ a2 ≤ 8) (h5 : 0 ≤ b2 ∧ b2 ≤ 8) (h6 : 0 ≤ c2 ∧ c2 ≤ 8) (h7 : 0 ≤ a3 ∧ a3 ≤ 8) (h8 : 0 ≤ b3 ∧ b3 ≤ 8) (h9 : 0 ≤ c3 ∧ c3 ≤ 8) :
    Tell 3 w mean mg mb 246 [(l, { cls := .type "list", data := .seq #[.ref p, .ref q, .ref r] nl }), (p, tup3 a1 b1 c1 t1 t2 t3), (q, tup3 a2 b2 c2 t4 t5 t6), (r, tup3 a3 b3 c3 t7 t8 t9)] [.ref l] (fun tl v => tl = [] ∧ ∃ b, v = .bool b ∧ (b = true ↔ PlainP a1 b1 c1 a2 b2 c2 a3 b3 c3)) := by
  w_on; unfold Tell; k_fill
  intro dp un gd cn cs aZ ccd cl outer A₀ base h₀ L m s Q E B F X N T hk hd hu hret
  refine wpAny_call ?_
  k_dflt (refine' code_tell ?zqk1 ?zqk2 ?zqk3 ?zqk4 ?zqk5 ?zqkA ?zqkF ?zqkK ?zqk6 ?zqk7 ?zqk8 ?zqk9 ?zqkB ?_ ?zqc2 ?zqc3 ?zqc4 ?zqc5; (case zqkA => exact rfl); (case zqkF => exact rfl); (case zqkK => assumption); (case zqk1 => k_asm); (case zqk2 => k_asm); (case zqk3 => k_asm); (case zqk4 => k_asm); (case zqk5 => k_asm); (case zqk6 => k_is); (case zqk7 => k_is); (case zqk8 => ktr_room); (case zqk9 => first | exact BindsTo.of_eq rfl | exact binds_K (by k_in) rfl (by k_is) rfl rfl rfl); (case zqc5 => decide); (case zqkB => exact locs rfl); (case zqc2 => exact rfl); (case zqc3 => exact rfl); (case zqc4 => exact rfl); k_whole)
  intro g' L' h' hg FG' F' N' B' X' T' l0
  (try dsimp only); (try k_fold)
  repeat' (first | (k_here; (with_reducible show wpAny _ _ (exec (Stmt.If (Expr.BoolOp BoolOp.And _ _) _ _ _) _) _ _ _); k_dflt (refine' cut_opp (x := "one") (y := "other") (by k_asm) (by k_asm) (by exact rfl) (by exact rfl) (by k_mem) (by k_mem) (oppturn w mean mg mb _ _ _ _ _ _ _ _ _ _ _ _ _ _ _ dp un gd cn cs L aZ ccd cl outer base _ _ _ (by assumption) (by assumption) (by assumption) (by assumption) (by assumption) (by assumption) (by exact rfl) (by exact rfl) (by k_mem) (by k_mem) _ _ (by k_asm) (by k_asm) (by k_asm) (by k_asm) (by k_asm) hk hd hu) ?_ ?_); (intro p' h' tk' F' N'; (try k_sweep)); rotate_left; (intro p' h' tk' F' N'; (try k_sweep)); rotate_left) |  ((with_reducible show TestEnd _ _ _ _ _ _ _ _); k_dflt (refine' TestEnd.intro ?zqe ?zqF ?zqN ?zqhs; (case zqe => first | (with_reducible exact greyT2 (by with_reducible assumption)) | (with_reducible exact greyT3 (by with_reducible assumption)) | (with_reducible exact greyT1 (by with_reducible assumption))); (case zqF => k_asm); (case zqN => k_asm); (case zqhs => k_subL))) | ((with_reducible show wpAny _ _ (exec (Stmt.For (Expr.Name _ _) (Expr.Name _ _) _ _ _) _) _ _ _); (k_here; (rename Fr _ _ _ _ => lF'); (with_unfolding_all refine' For_turns lF' ?_; k_whole))) | ((with_reducible show wpAny _ _ (call (Value.builtin "list.insert") _ _) _ _ _); ((with_reducible show wpAny _ _ (call _ (_ ++ _)) _ _ _); dsimp only [List.cons_append, List.nil_append])) | ((with_reducible show wpAny _ _ (subscriptTail _ _ (Value.ref _) _) _ _ _); (k_here; (with_reducible show wpAny _ _ (subscriptTail _ _ (Value.ref _) (Value.int _ _)) _ _ _); k_dflt (refine' sub_any ?zqk1 ?zqk2 ?zqkh ?zqk3 ?zqk4 ?zqk5 ?_; (case zqk1 => k_asm); (case zqk2 => k_mem); (case zqkh => first | exact .inr ⟨_, rfl⟩ | exact .inl ⟨_, rfl⟩); (case zqk3 => decide); (case zqk4 => decide); (case zqk5 => rfl)))) | ((with_reducible show JQ _ _ _ _ _ _ _ _); k_dflt (first | (refine' JQ.yes ?zqF ?zqN ?zqp; (case zqp => with_reducible first | exact sameY1 (by with_reducible assumption) (by with_reducible assumption) (by with_reducible assumption) (by with_reducible assumption) | exact sameY2 (by with_reducible assumption) (by with_reducible assumption) (by with_reducible assumption) (by with_reducible assumption) | exact oppY (by with_reducible assumption) (by with_reducible assumption)); (case zqF => k_asm); (case zqN => k_asm)) | (refine' JQ.no ?zqF ?zqN ?zqp; (case zqp => with_reducible first | exact sameNo (by with_reducible assumption) (by with_reducible assumption) (by with_reducible assumption) (by with_reducible assumption) (by with_reducible assumption) (by with_reducible assumption) | exact oppN1 (by with_reducible assumption) | exact oppN2 (by with_reducible assumption)); (case zqF => k_asm); (case zqN => k_asm)))) | ((with_reducible show wpAny _ _ (call (Value.ref _) _ _) _ _ _); (k_here; k_dflt (refine' tell_use (span_tell _ _ _ _ _ _ _ _ _ _ _ _ _ _ _ _ _ _ ?zqh1 ?zqh2 ?zqh3 ?zqh4 ?zqh5 ?zqh6) ?zqB ?zqF ?zqX ?zqN ?zqT ?zqhk ?zqhd ?zqhu ?zqhs ?_; (case zqB => k_asm); (case zqF => k_asm); (case zqX => k_asm); (case zqN => k_asm); (case zqT => k_asm); (case zqhk => first | exact rfl | assumption); (case zqhd => ktr_room); (case zqhu => ktr_units); (case zqhs => k_subL); (case zqh1 => first | assumption | omega); (case zqh2 => first | assumption | omega); (case zqh3 => first | assumption | omega); (case zqh4 => first | assumption | omega); (case zqh5 => first | assumption | omega); (case zqh6 => first | assumption | omega); k_whole); intro r9 tl9 h9 tk9 p9 k9 F9 N9 e9; obtain ⟨tl9e, t9, r9e⟩ := p9; subst r9e; subst tl9e; (try simp only [List.cons_append, List.nil_append] at N9); (try simp only [NeAlls, NeAll, and_true, true_and, and_assoc] at e9); (repeat (have e8 := e9.1; replace e9 := e9.2)); (try k_sweep); (try dsimp only); (try k_fold))) | ((with_reducible show wpAny _ _ (compareOp CmpOp.NotEq (Value.ref _) (Value.ref _)) _ _ _); (k_here; (with_reducible show wpAny _ _ (compareOp CmpOp.NotEq (Value.ref _) (Value.ref _)) _ _ _); k_dflt (refine' ne_nil ?zqk1 ?zqk2 ?zqk3 ?zqk4 ?_; (case zqk1 => k_asm); (case zqk2 => k_mem); (case zqk3 => k_mem); (case zqk4 => first | k_units | ktr_units); k_whole); (try simp only [List.size_toArray, List.length_cons, List.length_nil, ne_eq, Nat.add_eq_zero_iff, one_ne_zero, and_false, not_false_eq_true, decide_true, not_true_eq_false, decide_false]); (try dsimp only); (try k_sweep))) | ((with_reducible show wpAny _ _ (call (Value.builtin "min") _ _) _ _ _); (k_here; (with_reducible show wpAny _ _ (call (Value.builtin _) [Value.ref _]) _ _ _); k_dflt (refine' min3_list ?zqk0 ?zqk1 ?zqk2 ?zqk3 ?_; (case zqk0 => exact rfl); (case zqk1 => k_asm); (case zqk2 => k_asm); (case zqk3 => k_mem); k_whole); intro M' t' h' tk' F' N' m1' m2' m3' m4'; (try k_sweep))) | ((with_reducible show wpAny _ _ (call (Value.builtin "max") _ _) _ _ _); (k_here; (with_reducible show wpAny _ _ (call (Value.builtin _) [Value.ref _]) _ _ _); k_dflt (refine' max3_list ?zqk0 ?zqk1 ?zqk2 ?zqk3 ?_; (case zqk0 => exact rfl); (case zqk1 => k_asm); (case zqk2 => k_asm); (case zqk3 => k_mem); k_whole); intro M' t' h' tk' F' N' m1' m2' m3' m4'; (try k_sweep))) | (k_here; (with_reducible show wpAny _ _ (exec (Stmt.If (Expr.BoolOp BoolOp.Or _ _) _ _ _) _) _ _ _); (fail_if_success (with_reducible show wpAny _ _ _ (fun _ _ => JQ _ _ _ _ _ _ _ _) _ _)); (fail_if_success (with_reducible show wpAny _ _ _ (JQ _ _ _ _ _ _) _ _)); k_dflt (refine' cut_same (x := "spans") (by k_asm) (by k_asm) (by exact rfl) (by k_mem) ?_ ?_ ?_); rotate_left; (intro p' h' tk' F' N'; (try k_sweep)); rotate_left; (intro p' h' tk' F' N'; (try k_sweep)); rotate_left) | (k_dflt ((with_reducible refine fun (g' : Heap) => ?_); unfold FltTurn; intro I' oI' C' oC' D' m' ys' h' tk' E' hC' hx' F' N' off' ne'); (try simp only [LCg.Off3, and_true] at off'); (try walk_at "mine split")) | (with_reducible refine fun (g' : Heap) (y1' : HidP _) (y2' : HidP _) => ?_) | (with_reducible refine fun (g' : Heap) (y1' : HidP _) => ?_) | (with_reducible refine fun (g' : Heap) => ?_) | (k_unfold; (try dsimp only)) | (k_end; wrow_close) | (walk1 <;> (try dsimp only) <;> (try walk_at "mine split")) | (dsimp only; walk1) | (leave1; walk_say "STEP leave1"; try dsimp only) | fail "no step")
  all_goals first
  | exact tell_fin2 hret hg (by k_asm) (by k_asm) N (by k_subL) (⟨rfl, _, rfl, plainS (by with_reducible assumption)⟩) (by k_subL) (by walk_at "mine ne")
  | exact tell_fin2 hret hg (by k_asm) (by k_asm) N (by k_subL) (⟨rfl, _, rfl, plainO1 (by with_reducible assumption)⟩) (by k_subL) (by walk_at "mine ne")
  | exact tell_fin2 hret hg (by k_asm) (by k_asm) N (by k_subL) (⟨rfl, _, rfl, plainO2 (by with_reducible assumption)⟩) (by k_subL) (by walk_at "mine ne")
  | exact tell_fin2 hret hg (by k_asm) (by k_asm) N (by k_subL) (⟨rfl, _, rfl, plainO3 (by with_reducible assumption)⟩) (by k_subL) (by walk_at "mine ne")
  | exact tell_fin2 hret hg (by k_asm) (by k_asm) N (by k_subL) (⟨rfl, _, rfl, plainN (by with_reducible assumption) (by with_reducible assumption) (by with_reducible assumption) (by with_reducible assumption)⟩) (by k_subL) (by walk_at "mine ne")
end
section
noncomputable def fnBody (o : Option Obj) : List Stmt := match o with
  | some ⟨_, _, .func fd, _⟩ => (match fd.body with | .stmts b => b | _ => [])
  | _ => []
noncomputable def fnScope (o : Option Obj) : Scope := match o with
  | some ⟨_, _, .func fd, _⟩ => fd.scope
  | _ => { kind := .function, names := [], isGenerator := false, isCoroutine := false }
noncomputable def lawO (w : World) : Option Obj := (Mine.hd.heap_1 w.params).lookup 251
theorem lawO_ok (w : World) : (fnBody (lawO w)).length = 11 := by rfl
noncomputable abbrev lawE (w : World) (L a : Addr) (cd : Value) : Env := envOfC (Str.ofString "law") (fnScope (lawO w)) L a cd
noncomputable abbrev lawA (w : World) (L a : Addr) (cd : Value) : Around := callerA.deeper (lawE w L a cd)
/-- the same but for the names xs -/
noncomputable def Agr (xs : List Str) (m m' : Str → Option Value) : Prop := ∀ x, x ∉ xs → m' x = m x
theorem Agr.refl {xs : List Str} {m : Str → Option Value} : Agr xs m m := fun _ _ => rfl
theorem Agr.set {xs : List Str} {m m' : Str → Option Value} {y : Str} {v : Option Value} (h : Agr xs m m') (hy : y ∈ xs) : Agr xs m (fun z => if z = y then v else m' z) := fun x hx => by
  have : x ≠ y := fun e => hx (e ▸ hy)
  simp only [if_neg this]
  exact h x hx
theorem Agr.at {xs : List Str} {m m' : Str → Option Value} {x : Str} {v : Option Value} (h : Agr xs m m') (hx : x ∉ xs) (e : m x = v) : m' x = v := (h x hx).trans e
theorem subN {h₀ h : Heap} {L : Addr} {led all : List (Addr × Obj)} (N : News h₀ L h all) (hs : SubL led all) : News h₀ L h led := fun p hp => N p (hs.mem p hp)
noncomputable def forBody (s : Stmt) : Stmt := match s with
  | .For _ _ b _ _ => b.headD (.Pass default)
  | _ => .Pass default
noncomputable def ifBody (s : Stmt) : Stmt := match s with
  | .If _ b _ _ => b.headD (.Pass default)
  | _ => .Pass default
noncomputable def ifTest (s : Stmt) : Expr := match s with
  | .If c _ _ _ => c
  | _ => .Constant .none 0 default
noncomputable def lawIf (w : World) : Stmt := forBody (forBody (forBody ((fnBody (lawO w)).getD 7 (.Pass default))))
theorem neOfLt {d : Addr} : ∀ {l : List (Addr × Obj)}, AllLt d l → ∀ p ∈ l, p.1 ≠ d
  | [], _, _, h => nomatch h
  | _ :: _, h, q, hq => by rcases List.mem_cons.mp hq with rfl | hq; exact Nat.ne_of_lt h.1; exact neOfLt h.2 q hq
end
section
section
variable {prog : Program} {w : World} {A : Around} {E : Value → Shared → Prop} {s : Shared} {h₀ : Heap} {L : Addr} {m : Str → Option Value} {env : Env}
theorem c3_assign {env : Env} {a b c : Str} {pa pb pc tp : Pos} {kk : Nat} {T : Addr} {x y z : Value} {m : Str → Option Value} {Q : Unit → Shared → Prop} (hh : A.handled = none) (ht : s.heap.IsTuple T #[x, y, z])
    (ha : env.kindOf a = some .local) (hb : env.kindOf b = some .local) (hc : env.kindOf c = some .local) (hp : (env.scope.kind == .class || (env.scope.kind == .module && env.locals != env.globals)) = false) (hn : s.heap.Ns env.locals m)
    (h : ∀ (h' : Heap) (tk : Nat), h'.Ns env.locals (fun u => if u = c then some z else if u = b then some y else if u = a then some x else m u) → (∀ d o, d ≠ env.locals → s.heap.get? d = some o → h'.get? d = some o) → Q () { s with heap := h', toks := tk }) :
    wpAny (model prog w) A (assign (.Tuple [.Name a pa, .Name b pb, .Name c pc] kk tp) env (.ref T)) Q E s := by
  refine wpAny_assign_Tuple hh ht rfl rfl fun h₁ he₁ => ?_
  have hL : env.locals ≠ s.heap.objs.size := Nat.ne_of_lt hn.lt
  have hn₁ : h₁.Ns env.locals m := hn.at' fun o e => he₁ _ o hL e
  show wpAny _ _ (assignInOrder [assign (.Name a pa) env, assign (.Name b pb) env, assign (.Name c pc) env] [x, y, z]) _ _ _
  refine assignInOrder_cons (wpAny_assign_Name (wpAny_storeName_local ha hn₁ (fun h₂ hn₂ hs₂ => ?_) hp))
  refine assignInOrder_cons (wpAny_assign_Name (wpAny_storeName_local hb hn₂ (fun h₃ hn₃ hs₃ => ?_) hp))
  refine assignInOrder_cons (wpAny_assign_Name (wpAny_storeName_local hc hn₃ (fun h₄ hn₄ hs₄ => ?_) hp))
  refine assignInOrder_nil ?_
  exact h h₄ _ hn₄ fun d o hd e => hs₄.extBut d o hd (hs₃.extBut d o hd (hs₂.extBut d o hd (he₁ d o (Nat.ne_of_lt (Heap.lt_size e)) e)))
/-- one turn of a comprehension over triples: what its element gives -/
noncomputable def Turn3 (prog : Program) (w : World) (A : Around) (h₀ : Heap) (L : Addr) (m : Str → Option Value) (env : Env) (elt : Expr) (x1 x2 x3 : Str) (scope : Scope) (cl : List (Str × Addr)) (s : Shared) (v1 v2 v3 : Value) (P : Obj → Prop) : Prop :=
  ∀ C oC m₂ h tk (E' : Value → Shared → Prop), LCg.NsObj oC m₂ → m₂ x1 = some v1 → m₂ x2 = some v2 → m₂ x3 = some v3 → Fr h₀ L h m → News h₀ L h [(C, oC)] →
    wpAny (model prog w) A (eval elt (compEnvC scope cl C env)) (fun y s' => ∃ D o h' tk', y = .ref D ∧ s' = { s with heap := h', toks := tk' } ∧ Kept h h' ∧ NewIn h h' [(D, o)] ∧ P o) E' { s with heap := h, toks := tk }
/-- the list of triples is there -/
noncomputable def Src3 (prog : Program) (w : World) (A : Around) (h₀ : Heap) (L : Addr) (m : Str → Option Value) (env : Env) (elt : Expr) (x1 x2 x3 : Str) (scope : Scope) (cl : List (Str × Addr)) (Q : Value → Shared → Prop) (xv : Value) (s₁ : Shared) : Prop :=
  ∃ ax k p1 p2 p3 a1 b1 c1 a2 b2 c2 a3 b3 c3 P1 P2 P3 news, xv = .ref ax ∧ A.handled = none ∧ Fr h₀ L s₁.heap m ∧ News h₀ L s₁.heap news ∧ (ax, ({ cls := .type "list", data := .seq #[.ref p1, .ref p2, .ref p3] k } : Obj)) ∈ news ∧
    (p1, ({ cls := .type "tuple", data := .seq #[a1, b1, c1] 0 } : Obj)) ∈ news ∧ (p2, ({ cls := .type "tuple", data := .seq #[a2, b2, c2] 0 } : Obj)) ∈ news ∧ (p3, ({ cls := .type "tuple", data := .seq #[a3, b3, c3] 0 } : Obj)) ∈ news ∧
    Turn3 prog w A h₀ L m env elt x1 x2 x3 scope cl s₁ a1 b1 c1 P1 ∧ Turn3 prog w A h₀ L m env elt x1 x2 x3 scope cl s₁ a2 b2 c2 P2 ∧ Turn3 prog w A h₀ L m env elt x1 x2 x3 scope cl s₁ a3 b3 c3 P3 ∧
    ∀ D d1 d2 d3 o1 o2 o3 h tk, P1 o1 → P2 o2 → P3 o3 → Fr h₀ L h m → News h₀ L h ((D, LCg.lst [.ref d1, .ref d2, .ref d3]) :: (d1, o1) :: (d2, o2) :: (d3, o3) :: news) → (∀ p ∈ news, D ≠ p.1 ∧ d1 ≠ p.1 ∧ d2 ≠ p.1 ∧ d3 ≠ p.1) → Q (.ref D) { s₁ with heap := h, toks := tk }
set_option maxHeartbeats 2000000 in
theorem comp3 {elt iter : Expr} {x1 x2 x3 : Str} {q1 q2 q3 tp pos : Pos} {kk : Nat} {scope : Scope} {cl : List (Str × Addr)} {Q : Value → Shared → Prop}
    (F₀ : Fr h₀ L s.heap m) (hclos : closureFor scope env = pure cl) (hcell : ∀ y ∈ scope.names, y.2 ≠ .cell) (hkind : scope.kind = .function) (hnames : ∀ y ∈ scope.names, y.2 = .local → scope.names.lookup y.1 = some .local)
    (hx1 : scope.names.lookup x1 = some .local) (hx2 : scope.names.lookup x2 = some .local) (hx3 : scope.names.lookup x3 = some .local) (h12 : x1 ≠ x2) (h13 : x1 ≠ x3) (h23 : x2 ≠ x3)
    (hi : wpAny (model prog w) A (eval iter env) (Src3 prog w A h₀ L m env elt x1 x2 x3 scope cl Q) E s)
    (hs : ∀ x, foldedSetIterable iter env x = pure x := by intro _; rfl) :
    wpAny (model prog w) A (eval (.ListComp elt [⟨.Tuple [.Name x1 q1, .Name x2 q2, .Name x3 q3] kk tp, iter, [], 0⟩] scope pos) env) Q E s := by
  rw [eval_ListComp]
  refine wpAny_comprehension_free (use := none) rfl hs hclos hkind hnames (wpAny_mono hi (fun xv s₁ h₁ => ?_) fun _ _ e => e)
  obtain ⟨ax, k, p1, p2, p3, a1, b1, c1, a2, b2, c2, a3, b3, c3, P1, P2, P3, news, rfl, hh, F, N, hm, e1, e2, e3, T1, T2, T3, fin⟩ := h₁
  have hl : s₁.heap.IsList ax #[.ref p1, .ref p2, .ref p3] := ⟨_, N.get hm, rfl, _, rfl⟩
  have hax : ax < s₁.heap.objs.size := by obtain ⟨_, e, _⟩ := hl; exact Heap.lt_size e
  refine wpAny_pyIter_list hl ?_
  refine wpAny_newObj_type (wpAny_newFunctionEnv hcell (by intro y hy; simp at hy) (fun h₁ hns₁ hsb₁ => ?_) hkind)
  dsimp only at hns₁ hsb₁ ⊢
  generalize hIdef : s₁.heap.objs.size = I at *
  generalize hH1 : s₁.heap.push { cls := .type "list_iterator", data := .fields #[.ref ax, .int 0 0] } = H1 at *
  generalize hH2 : H1.push { cls := .type "list", dict := none, data := .seq ([] : List Value).toArray } = H2 at *
  have sz1 : H1.objs.size = I + 1 := by rw [← hH1, Heap.size_push, hIdef]
  have sz2 : H2.objs.size = I + 1 + 1 := by rw [← hH2, Heap.size_push, sz1]
  generalize hDd : H1.objs.size = D at *
  generalize hCd : H2.objs.size = C at *
  have hID : I ≠ D := by (first | lia | omega)
  have hIC : I ≠ C := by (first | lia | omega)
  have hDC : D ≠ C := by (first | lia | omega)
  have old : ∀ b, b < I → b ≠ I ∧ b ≠ D ∧ b ≠ C := fun b hb => by (first | lia | omega)
  have lt : ∀ b o, s₁.heap.get? b = some o → b < I := fun b o e => hIdef ▸ Heap.lt_size e
  have up1 : ∀ b o, s₁.heap.get? b = some o → h₁.get? b = some o := fun b o e =>
    hsb₁.extBut b o (old b (lt b o e)).2.2 (Heap.get?_push_of_some _ (hH2 ▸ Heap.get?_push_of_some _ (hH1 ▸ Heap.get?_push_of_some _ e)))
  have fresh : ∀ b, I ≤ b → s₁.heap.get? b = none := fun b hb => by
    cases e : s₁.heap.get? b with
    | none => rfl
    | some o => exact absurd (lt b o e) (Nat.not_lt.mpr hb)
  have hit₁ : h₁.IsListIter I ax 0 := ⟨_, hsb₁.extBut _ _ hIC (Heap.get?_push_of_some _ (hH2 ▸ Heap.get?_push_of_some _ (by rw [← hH1, ← hIdef]; exact Heap.get?_push_size _ rfl))), rfl, rfl⟩
  have hD₁ : h₁.get? D = some (LCg.lst []) := hsb₁.extBut _ _ hDC (Heap.get?_push_of_some _ (by rw [← hH2, ← hDd]; exact Heap.get?_push_size _ rfl))
  have fresh₀ : ∀ b, s₁.heap.get? b = none → h₀.get? b = none := fun b hb => by
    cases e : h₀.get? b with
    | none => rfl
    | some o => rw [F.keep b o e] at hb; cases hb
  have hLI : L < I := hIdef ▸ F.ns.lt
  have hCL : C ≠ L := Ne.symm (Nat.ne_of_lt (Nat.lt_of_lt_of_le hLI (by (first | lia | omega))))
  have W := Walks.list (prog := prog) (w := w) (A := A) hh I ax (Nat.ne_of_lt hax) #[.ref p1, .ref p2, .ref p3]
  have loop : ∀ s₃ : Shared, s₃ = { s₁ with heap := h₁, toks := s₁.toks + ([] : List (Str × Value)).length } →
      codeAny (model prog w) A (.compLoop (.ListComp elt [⟨.Tuple [.Name x1 q1, .Name x2 q2, .Name x3 q3] kk tp, iter, [], 0⟩] scope pos) 0 (.ref I) (.ref D) (compEnvC scope cl C env))
        (compPost (model prog w) A E none Q (.ref D) C) s₃ := by
    rintro s₃ rfl
    refine kcp_loop (fun n s' => ∃ (h' : Heap) (tk : Nat) (i : Nat) (m' : Str → Option Value) (ds : List Addr), s' = { s₁ with heap := h', toks := tk } ∧ i ≤ 3 ∧ n = 4 - i ∧ h'.IsListIter I ax i ∧ h'.IsList ax #[.ref p1, .ref p2, .ref p3] ∧ (∀ b o, s₁.heap.get? b = some o → h'.get? b = some o) ∧ h'.Ns C m' ∧
      h'.get? D = some (LCg.lst (ds.map Value.ref)) ∧ ds.length = i ∧ ∀ (j : Nat) (d : Addr) (P : Obj → Prop), ds[j]? = some d → [P1, P2, P3][j]? = some P → (∃ o, h'.get? d = some o ∧ P o) ∧ s₁.heap.get? d = none ∧ d ≠ I ∧ d ≠ C ∧ d ≠ D) ?_ 4
      ⟨h₁, _, 0, _, [], rfl, by (first | lia | omega), rfl, hit₁, hl.at fun o e => up1 _ o e, up1, hns₁, hD₁, rfl, fun j d o h => absurd (show ([] : List Addr)[j]? = some d from h) (by rw [List.getElem?_nil]; intro q; cases q)⟩
    rintro n s' ⟨h', tk, i, m', ds, rfl, hi3, rfl, hit, hls, up, hn, hD, hlen, hds⟩
    by_cases hlt : i < 3
    · have turn : ∀ p a b c P, #[Value.ref p1, .ref p2, .ref p3][i]? = some (.ref p) → [P1, P2, P3][i]? = some P → (p, ({ cls := .type "tuple", data := .seq #[a, b, c] 0 } : Obj)) ∈ news → Turn3 prog w A h₀ L m env elt x1 x2 x3 scope cl s₁ a b c P →
          wpAny (model prog w) A (pyNext (.ref I)) (fun r s₁' => match r with
            | none => compPost (model prog w) A E none Q (.ref D) C (.ok .next) s₁'
            | some v => wpAny (model prog w) A (letOwnedTupleGo (.Tuple [.Name x1 q1, .Name x2 q2, .Name x3 q3] kk tp) (.ref I) v) (fun _ s₀ => wpAny (model prog w) A (assign (.Tuple [.Name x1 q1, .Name x2 q2, .Name x3 q3] kk tp) (compEnvC scope cl C env) v) (fun _ s₂ =>
                wpAny (model prog w) A (eval elt (compEnvC scope cl C env)) (fun x s₄ =>
                  wpAny (model prog w) A (call (.builtin "list.append") [.ref D, x]) (fun _ s₅ => ∃ m, m < 4 - i ∧ ∃ (h' : Heap) (tk : Nat) (i : Nat) (m' : Str → Option Value) (ds : List Addr), s₅ = { s₁ with heap := h', toks := tk } ∧ i ≤ 3 ∧ m = 4 - i ∧ h'.IsListIter I ax i ∧ h'.IsList ax #[.ref p1, .ref p2, .ref p3] ∧ (∀ b o, s₁.heap.get? b = some o → h'.get? b = some o) ∧ h'.Ns C m' ∧
      h'.get? D = some (LCg.lst (ds.map Value.ref)) ∧ ds.length = i ∧ ∀ (j : Nat) (d : Addr) (P : Obj → Prop), ds[j]? = some d → [P1, P2, P3][j]? = some P → (∃ o, h'.get? d = some o ∧ P o) ∧ s₁.heap.get? d = none ∧ d ≠ I ∧ d ≠ C ∧ d ≠ D) (notedBy (model prog w) A (compEnvC scope cl C env) fun e s' => compPost (model prog w) A E none Q (.ref D) C (.error e) s') s₄) (notedBy (model prog w) A (compEnvC scope cl C env) fun e s' => compPost (model prog w) A E none Q (.ref D) C (.error e) s') s₂)
                (notedBy (model prog w) A (compEnvC scope cl C env) fun e s' => compPost (model prog w) A E none Q (.ref D) C (.error e) s') s₀) (notedBy (model prog w) A (compEnvC scope cl C env) fun e s' => compPost (model prog w) A E none Q (.ref D) C (.error e) s') s₁') (notedBy (model prog w) A (compEnvC scope cl C env) fun e s' => compPost (model prog w) A E none Q (.ref D) C (.error e) s') { s₁ with heap := h', toks := tk } := by
        intro p a b c P hp ho he T
        refine W.item i _ _ _ hlt ⟨hit, hls⟩ fun v h₂ tk₂ hPv hst₂ hk₂ => ?_
        have hv : v = .ref p := Option.some.inj (hPv.symm.trans hp)
        subst hv
        have k2 : ∀ b o, b ≠ I → h'.get? b = some o → h₂.get? b = some o := fun b o hb e => hk₂ b o (by simpa using hb) e
        have hpI : p ≠ I := Nat.ne_of_lt (lt _ _ (N _ he).1)
        refine wpAny_letOwnedTupleGo_listiter hst₂.1 ?_
        refine c3_assign hh ⟨_, k2 _ _ hpI (up _ _ (N _ he).1), rfl, _, rfl⟩ (lookup_relabel_local hx1) (lookup_relabel_local hx2) (lookup_relabel_local hx3) (by simp [compEnvC, relabel, hkind]) (hn.at' fun o e => k2 _ o (Ne.symm hIC) e) fun h₃ tk₃ hn₃ hk₃ => ?_
        obtain ⟨oC, heC, hoC⟩ := LCg.ns_obj hn₃
        have up3 : ∀ b o, s₁.heap.get? b = some o → h₃.get? b = some o := fun b o e => hk₃ b o (old b (lt b o e)).2.2 (k2 b o (old b (lt b o e)).1 (up b o e))
        refine wpAny_mono (T C oC _ h₃ tk₃ _ hoC (by simp [h12, h13]) (by simp [h23]) (by simp) (F.keeps up3) (fun q hq => ?_)) (fun y s₄ h₄ => ?_) fun _ _ e => e
        · rw [List.mem_singleton.mp hq]; exact ⟨heC, hCL, fresh₀ _ (fresh _ (by (first | lia | omega)))⟩
        obtain ⟨Dn, o, h₄, tk₄, rfl, rfl, K4, n4, hPo⟩ := h₄
        obtain ⟨gD, nD⟩ := n4 (Dn, o) (.head _)
        have zD : h₃.get? D = some (LCg.lst (ds.map Value.ref)) := hk₃ _ _ hDC (k2 _ _ (Ne.symm hID) hD)
        have hne : ∀ b o', h₃.get? b = some o' → Dn ≠ b := fun b o' e q => by rw [q, e] at nD; cases nD
        refine append_at (hsz := by rw [List.size_toArray, List.length_map, hlen]; exact Nat.le_trans (Nat.le_of_lt hlt) (Nat.le_of_ble_eq_true rfl)) (K4 _ _ zD) fun h₅ hs₅ hD₅ => ?_
        have up5 : ∀ b o, s₁.heap.get? b = some o → h₅.get? b = some o := fun b o e => hs₅.extBut b o (old b (lt b o e)).2.1 (K4 _ _ (up3 b o e))
        have it3 : h₃.IsListIter I ax (i + 1) := hst₂.1.at fun o e => hk₃ _ o hIC e
        obtain ⟨oI, heI, _⟩ := id it3
        refine ⟨4 - (i + 1), by (first | lia | omega), h₅, tk₄, i + 1, _, ds ++ [Dn], rfl, hlt, rfl, it3.at fun o e => hs₅.extBut _ _ hID (K4 _ _ e), hl.at fun o e => up5 _ _ e, up5, (hoC.ns (K4 _ _ heC)).sameBut hs₅ (Ne.symm hDC), ?_, by simp [hlen], fun j d o' hj ho' => ?_⟩
        · rw [hD₅, List.map_append]
          exact congrArg some (LCg.lst_snoc (ds.map Value.ref) (.ref Dn))
        · by_cases hj' : j < ds.length
          · rw [List.getElem?_append_left hj'] at hj
            obtain ⟨⟨og, g, hg⟩, f, r1, r2, r3⟩ := hds j d o' hj ho'
            exact ⟨⟨og, hs₅.extBut _ _ r3 (K4 _ _ (hk₃ _ _ r2 (k2 _ _ r1 g))), hg⟩, f, r1, r2, r3⟩
          · have ej : j = ds.length := by
              rcases Nat.lt_or_ge j (ds ++ [Dn]).length with q | q
              · simp at q; (first | lia | omega)
              · rw [List.getElem?_eq_none q] at hj; cases hj
            subst ej
            rw [List.getElem?_append_right (Nat.le_refl _), Nat.sub_self] at hj
            have hd : Dn = d := Option.some.inj hj
            subst hd
            rw [hlen] at ho'
            have := Option.some.inj (ho.symm.trans ho')
            subst this
            have nDD := hne _ _ zD
            refine ⟨⟨o, hs₅.extBut _ _ nDD gD, hPo⟩, ?_, hne _ _ heI, hne _ _ heC, nDD⟩
            cases q : s₁.heap.get? Dn with
            | none => rfl
            | some o => rw [up3 _ _ q] at nD; cases nD
      have h012 : i = 0 ∨ i = 1 ∨ i = 2 := by (first | lia | omega)
      rcases h012 with hi0 | hi0 | hi0
      · exact turn p1 a1 b1 c1 P1 (by rw [hi0]; rfl) (by rw [hi0]; rfl) e1 T1
      · exact turn p2 a2 b2 c2 P2 (by rw [hi0]; rfl) (by rw [hi0]; rfl) e2 T2
      · exact turn p3 a3 b3 c3 P3 (by rw [hi0]; rfl) (by rw [hi0]; rfl) e3 T3
    · obtain rfl : i = 3 := by (first | lia | omega)
      refine W.done _ _ _ ⟨hit, hls⟩ fun h₂ tk₂ hk₂ => ?_
      have k2 : ∀ b o, b ≠ I → h'.get? b = some o → h₂.get? b = some o := fun b o hb e => hk₂ b o (by simpa using hb) e
      refine ⟨m', hn.at' fun o e => k2 _ o (Ne.symm hIC) e, fun h'' hs'' => ?_⟩
      match ds, hlen with
      | [d1, d2, d3], _ =>
        have up'' : ∀ b o, s₁.heap.get? b = some o → h''.get? b = some o := fun b o e => hs''.extBut b o (old b (lt b o e)).2.2 (k2 b o (old b (lt b o e)).1 (up b o e))
        obtain ⟨⟨o1, g1, z1⟩, f1, r1, r2, r3⟩ := hds 0 d1 P1 rfl rfl
        obtain ⟨⟨o2, g2, z2⟩, f2, s1, s2, s3⟩ := hds 1 d2 P2 rfl rfl
        obtain ⟨⟨o3, g3, z3⟩, f3, u1, u2, u3⟩ := hds 2 d3 P3 rfl rfl
        have hLn : ∀ d, s₁.heap.get? d = none → d ≠ L := fun d hd e => by obtain ⟨o, _, _, ho, _⟩ := F.ns; rw [e, ho] at hd; cases hd
        have hof : ∀ d, s₁.heap.get? d = none → ∀ p ∈ news, d ≠ p.1 := fun d hd p hp e => by rw [e, (N p hp).1] at hd; cases hd
        refine fin D d1 d2 d3 o1 o2 o3 h'' tk₂ z1 z2 z3 (F.keeps up'') (fun p hp => ?_) fun p hp => ⟨hof D (fresh _ (by (first | lia | omega))) p hp, hof d1 f1 p hp, hof d2 f2 p hp, hof d3 f3 p hp⟩
        rcases List.mem_cons.mp hp with rfl | hp
        · exact ⟨hs''.extBut _ _ hDC (k2 _ _ (Ne.symm hID) hD), hLn _ (fresh _ (by (first | lia | omega))), fresh₀ _ (fresh _ (by (first | lia | omega)))⟩
        rcases List.mem_cons.mp hp with rfl | hp
        · exact ⟨hs''.extBut _ _ r2 (k2 _ _ r1 g1), hLn _ f1, fresh₀ _ f1⟩
        rcases List.mem_cons.mp hp with rfl | hp
        · exact ⟨hs''.extBut _ _ s2 (k2 _ _ s1 g2), hLn _ f2, fresh₀ _ f2⟩
        rcases List.mem_cons.mp hp with rfl | hp
        · exact ⟨hs''.extBut _ _ u2 (k2 _ _ u1 g3), hLn _ f3, fresh₀ _ f3⟩
        · exact ⟨up'' _ _ (N p hp).1, (N p hp).2⟩
  exact codeAny_compStart_list (loop _ rfl) (W.self 0 _ _ _ ⟨hit₁, hl.at fun o e => up1 _ o e⟩ (loop _ rfl))
noncomputable def HsvO (a b c : Int) (o : Obj) : Prop := ∃ x t1 t2 t3, o = hsv (hueF a b c) (satF a b c) x t1 t2 t3
theorem src3_rgb {elt : Expr} {x1 x2 x3 : Str} {scope : Scope} {cl : List (Str × Addr)} {Q : Value → Shared → Prop} {ax p1 p2 p3 : Addr} {k : Nat} {a1 b1 c1 a2 b2 c2 a3 b3 c3 : Int} {t1 u1 v1 t2 u2 v2 t3 u3 v3 : Tok} {news : List (Addr × Obj)}
    (hh : A.handled = none) (F : Fr h₀ L s.heap m) (N : News h₀ L s.heap news) (hm : (ax, ({ cls := .type "list", data := .seq #[.ref p1, .ref p2, .ref p3] k } : Obj)) ∈ news)
    (e1 : (p1, tup3 a1 b1 c1 t1 u1 v1) ∈ news) (e2 : (p2, tup3 a2 b2 c2 t2 u2 v2) ∈ news) (e3 : (p3, tup3 a3 b3 c3 t3 u3 v3) ∈ news)
    (T1 : Turn3 prog w A h₀ L m env elt x1 x2 x3 scope cl s (.int a1 t1) (.int b1 u1) (.int c1 v1) (HsvO a1 b1 c1)) (T2 : Turn3 prog w A h₀ L m env elt x1 x2 x3 scope cl s (.int a2 t2) (.int b2 u2) (.int c2 v2) (HsvO a2 b2 c2))
    (T3 : Turn3 prog w A h₀ L m env elt x1 x2 x3 scope cl s (.int a3 t3) (.int b3 u3) (.int c3 v3) (HsvO a3 b3 c3))
    (fin : ∀ D d1 d2 d3 y1 y2 y3 r1 r2 r3 r4 r5 r6 r7 r8 r9 h tk, Fr h₀ L h m → News h₀ L h ((D, LCg.lst [.ref d1, .ref d2, .ref d3]) :: (d1, hsv (hueF a1 b1 c1) (satF a1 b1 c1) y1 r1 r2 r3) :: (d2, hsv (hueF a2 b2 c2) (satF a2 b2 c2) y2 r4 r5 r6) :: (d3, hsv (hueF a3 b3 c3) (satF a3 b3 c3) y3 r7 r8 r9) :: news) →
      (NeAll D news ∧ NeAll d1 news ∧ NeAll d2 news ∧ NeAll d3 news) → Q (.ref D) { s with heap := h, toks := tk }) :
    Src3 prog w A h₀ L m env elt x1 x2 x3 scope cl Q (.ref ax) s :=
  ⟨ax, k, p1, p2, p3, _, _, _, _, _, _, _, _, _, _, _, _, news, rfl, hh, F, N, hm, e1, e2, e3, T1, T2, T3, fun D d1 d2 d3 o1 o2 o3 h tk z1 z2 z3 F' N' ne => by
    obtain ⟨y1, r1, r2, r3, rfl⟩ := z1
    obtain ⟨y2, r4, r5, r6, rfl⟩ := z2
    obtain ⟨y3, r7, r8, r9, rfl⟩ := z3
    exact fin D d1 d2 d3 y1 y2 y3 r1 r2 r3 r4 r5 r6 r7 r8 r9 h tk F' N' ⟨NeAll.of fun p hp => (ne p hp).1, NeAll.of fun p hp => (ne p hp).2.1, NeAll.of fun p hp => (ne p hp).2.2.1, NeAll.of fun p hp => (ne p hp).2.2.2⟩⟩
theorem sufN {h : Heap} {l all : List (Addr × Obj)} (N : News h₀ L h all) (pre : List (Addr × Obj)) (e : pre ++ l = all) : News h₀ L h l := fun p hp => N p (e ▸ List.mem_append_right _ hp)
theorem consN {h : Heap} {l all : List (Addr × Obj)} {p : Addr × Obj} (N : News h₀ L h all) (hp : p ∈ all) (Nl : News h₀ L h l) : News h₀ L h (p :: l) := fun q hq => by
  rcases List.mem_cons.mp hq with rfl | hq
  · exact N _ hp
  · exact Nl q hq
end
end
section
noncomputable def mixO (w : World) : Option Obj := (Mine.hd.heap_1 w.params).lookup 236
noncomputable abbrev mixE (w : World) (L : Addr) : Env := envOf (Str.ofString "_law_mixture") (fnScope (mixO w)) L 236 (.ref 235)
noncomputable def forStsM (s : Stmt) : List Stmt := match s with
  | .For _ _ b _ _ => b
  | _ => []
noncomputable def mixB (w : World) : List Stmt := forStsM ((fnBody (mixO w)).getD 1 (.Pass default))
theorem dropN7 {h₀ h : Heap} {L : Addr} {a b c d e f g t u : Addr × Obj} {rest : List (Addr × Obj)} (N : News h₀ L h (a :: b :: c :: d :: e :: f :: g :: t :: u :: rest)) : News h₀ L h (a :: b :: c :: d :: e :: f :: g :: rest) :=
  List.forall_mem_cons.mpr ⟨N _ (.head _), List.forall_mem_cons.mpr ⟨N _ (.tail _ (.head _)), List.forall_mem_cons.mpr ⟨N _ (.tail _ (.tail _ (.head _))), List.forall_mem_cons.mpr ⟨N _ (.tail _ (.tail _ (.tail _ (.head _)))), List.forall_mem_cons.mpr ⟨N _ (.tail _ (.tail _ (.tail _ (.tail _ (.head _))))), List.forall_mem_cons.mpr ⟨N _ (.tail _ (.tail _ (.tail _ (.tail _ (.tail _ (.head _)))))), List.forall_mem_cons.mpr ⟨N _ (.tail _ (.tail _ (.tail _ (.tail _ (.tail _ (.tail _ (.head _))))))), fun p hp => N p (.tail _ (.tail _ (.tail _ (.tail _ (.tail _ (.tail _ (.tail _ (.tail _ (.tail _ hp)))))))))⟩⟩⟩⟩⟩⟩⟩
theorem NeAll.out {a : Addr} : ∀ {l : List (Addr × Obj)}, NeAll a l → ∀ p ∈ l, p.1 ≠ a
  | [], _, _, h => nomatch h
  | _ :: _, h, q, hq => by rcases List.mem_cons.mp hq with rfl | hq; exact Ne.symm h.1; exact NeAll.out h.2 q hq
section
local macro_rules | `(tactic| walk_at "mine mem") => `(tactic| first | exact List.Mem.head _ | assumption | (refine' List.Mem.tail _ ?_; walk_at "mine mem"))

set_option maxRecDepth 100000 in
set_option maxHeartbeats 8000000 in
theorem mixturn (w : World) (mean mg mb) (q tt e : Addr) (oe : Obj) (a b c n A1 A2 A3 A4 : Int) (t1 t2 t3 u v1 v2 v3 v4 : Tok) (led : List (Addr × Obj)) (dp un : Nat) (gd : Option (List Code)) (cn : Str) (cs : Scope) (L0 aZ : Addr) (ccd : Value) (cl : List (Str × Addr)) (outer : List Env) (base : Heap) (h₀ : Heap) (L : Addr) (m : Str → Option Value)
   (h1 : 0 ≤ a ∧ a ≤ 8) (h2 : 0 ≤ b ∧ b ≤ 8) (h3 : 0 ≤ c ∧ c ≤ 8) (k1 : 0 ≤ n ∧ n ≤ 128) (hse : Obj.IsDictOf (PySem.strKind PySem.Challenge.rw_pg0251_01.row.prog w) oe []) (fse : PyProof.V.FlatPairs PyData.str [] []) (le : (e == sysModules) = false) (mq : m "paint" = some (.ref q)) (mn : m "part" = some (.int n u)) (mt : m "total" = some (.ref tt)) (m1 : (q, tup3 a b c t1 t2 t3) ∈ led) (m2 : (tt, tup5 A1 A2 A3 A4 v1 v2 v3 v4 e) ∈ led) (m3 : (e, oe) ∈ led) (s : Shared) (Q : Flow → Shared → Prop) (E : Value → Shared → Prop)
   (B : Below (ktrTop dp un gd cn cs L0 aZ ccd cl outer) base (envX cn cs L0 aZ ccd cl :: outer) h₀) (X : (Mine.hd.heap_1 w.params).In h₀) (T : Top VW LO mean mg mb h₀) (F : Fr h₀ L s.heap m) (N : News h₀ L s.heap led)
   (hk : cs.kind = .function) (hd : dp + 2 * 4 < recursionLimit) (hu : un + 20 * 4 < cLine)
   (hret : ∀ D D2 o u1 u2 u3 u4 h' tk', Fr h₀ L h' (fun x => if x = Str.ofString "total" then some (.ref D) else m x) → News h₀ L h' ((D, tup5 (n * a + A1) (n * b + A2) (n * c + A3) (n + A4) u1 u2 u3 u4 D2) :: (D2, o) :: led) → Obj.IsDictOf (PySem.strKind PySem.Challenge.rw_pg0251_01.row.prog w) o [] → (D2 == sysModules) = false → (∀ p ∈ led, p.1 ≠ D ∧ p.1 ≠ D2) → Q .next { s with heap := h', toks := tk' }) :
    wpAny (model PySem.Challenge.rw_pg0251_01.row.prog w) ((ktrTop dp un gd cn cs L0 aZ ccd cl outer).deeper (mixE w L)) (execs (mixB w) (mixE w L)) Q E s := by
  w_on; revert X; k_fill; intro X
  k_dflt (show wpAny _ (Around.deeper _ (envOf _ (Scope.mk _ _ _ _ _) _ _ _)) (execs [_] (envOf _ (Scope.mk _ _ _ _ _) _ _ _)) _ _ _)
  (try dsimp only); (try k_fold)
  repeat' (first |  ((with_reducible show wpAny _ _ (eval (Expr.Name _ _) _) _ _ _); (k_here; k_dflt (first | (refine' nameX_L ?zqk1 ?zqk2 ?_; (case zqk1 => k_asm); (case zqk2 => assumption))))) | ((with_reducible show wpAny _ _ (call (Value.ref _) _ _) _ _ _); (k_here; k_dflt (refine' tell_use (stats_tell _ _ _ _ _ _ _ _ _ _ _ _ _ _ _ _ _ _ _ _ _ _ _ _ _ _ ?zqh1 ?zqh2 ?zqh3 ?zqh4 ?zqh5) ?zqB ?zqF ?zqX ?zqN ?zqT ?zqhk ?zqhd ?zqhu ?zqhs ?_; (case zqB => k_asm); (case zqF => k_asm); (case zqX => k_asm); (case zqN => k_asm); (case zqT => k_asm); (case zqhk => first | exact rfl | assumption); (case zqhd => ktr_room); (case zqhu => ktr_units); (case zqhs => k_subL); (case zqh1 => assumption); (case zqh2 => assumption); (case zqh3 => assumption); (case zqh4 => assumption); (case zqh5 => assumption); k_whole); intro r9 tl9 h9 tk9 p9 k9 F9 N9 e9; obtain ⟨D9, D8, o9, t91, t92, t93, t94, r9e, tl9e, hs9, lo9⟩ := p9; subst r9e; subst tl9e; (try simp only [List.cons_append, List.nil_append] at N9); (try simp only [NeAlls, NeAll, and_true, true_and, and_assoc] at e9); (repeat (have e8 := e9.1; replace e9 := e9.2)); (try k_sweep); (try dsimp only); (try k_fold))) | (k_unfold; (try dsimp only)) | (k_end; wrow_close) | (walk1 <;> (try dsimp only) <;> (try walk_at "mine split")) | (dsimp only; walk1) | (leave1; walk_say "STEP leave1"; try dsimp only) | fail "no step")
  all_goals first
  | exact hret _ _ _ _ _ _ _ _ _ (by k_asm) (consN (by k_asm) (.head _) (consN (by k_asm) (.tail _ (.head _)) (by first | exact sufN (by k_asm) [_, _] rfl | exact sufN (by k_asm) [_, _, _] rfl | exact sufN (by k_asm) [_, _, _, _] rfl | exact sufN (by k_asm) [_, _, _, _, _] rfl | exact sufN (by k_asm) [_, _, _, _, _, _] rfl))) (by assumption) (by assumption) (fun p hp => ⟨NeAll.out (by assumption) p hp, NeAll.out (by assumption) p hp⟩)
  | skip
end
section

set_option maxRecDepth 100000 in
set_option maxHeartbeats 8000000 in
theorem mix_tell (w : World) (mean mg mb) (l k : Addr) (nl nk : Nat) (p q r : Addr) (a1 b1 c1 a2 b2 c2 a3 b3 c3 : Int) (t1 t2 t3 t4 t5 t6 t7 t8 t9 : Tok) (n1 n2 n3 : Int) (u1 u2 u3 : Tok)
   (h1 : 0 ≤ a1 ∧ a1 ≤ 8) (h2 : 0 ≤ b1 ∧ b1 ≤ 8) (h3 : 0 ≤ c1 ∧ c1 ≤ 8) (h4 : 0 ≤ a2 ∧ a2 ≤ 8) (h5 : 0 ≤ b2 ∧ b2 ≤ 8) (h6 : 0 ≤ c2 ∧ c2 ≤ 8) (h7 : 0 ≤ a3 ∧ a3 ≤ 8) (h8 : 0 ≤ b3 ∧ b3 ≤ 8) (h9 : 0 ≤ c3 ∧ c3 ≤ 8) (k1 : 0 ≤ n1 ∧ n1 ≤ 128) (k2 : 0 ≤ n2 ∧ n2 ≤ 128) (k3 : 0 ≤ n3 ∧ n3 ≤ 128) (g1 : n3 * a3 + (n2 * a2 + (n1 * a1 + 0)) = n3 * b3 + (n2 * b2 + (n1 * b1 + 0))) (g2 : n3 * b3 + (n2 * b2 + (n1 * b1 + 0)) = n3 * c3 + (n2 * c2 + (n1 * c1 + 0))) :
    Tell 4 w mean mg mb 236 [(l, { cls := .type "list", data := .seq #[.ref p, .ref q, .ref r] nl }), (p, tup3 a1 b1 c1 t1 t2 t3), (q, tup3 a2 b2 c2 t4 t5 t6), (r, tup3 a3 b3 c3 t7 t8 t9), (k, { cls := .type "list", data := .seq #[.int n1 u1, .int n2 u2, .int n3 u3] nk })] [.ref l, .ref k] (fun tl v => ∃ D x t1 t2 t3, v = .ref D ∧ tl = [(D, hsv 0 0 x t1 t2 t3)]) := by
  w_on; unfold Tell; k_fill
  intro dp un gd cn cs aZ ccd cl outer A₀ base h₀ L m s Q E B F X N T hk hd hu hret
  refine wpAny_call ?_
  k_dflt (refine' code_tell ?zqk1 ?zqk2 ?zqk3 ?zqk4 ?zqk5 ?zqkA ?zqkF ?zqkK ?zqk6 ?zqk7 ?zqk8 ?zqk9 ?zqkB ?_ ?zqc2 ?zqc3 ?zqc4 ?zqc5; (case zqkA => exact rfl); (case zqkF => exact rfl); (case zqkK => assumption); (case zqk1 => k_asm); (case zqk2 => k_asm); (case zqk3 => k_asm); (case zqk4 => k_asm); (case zqk5 => k_asm); (case zqk6 => k_is); (case zqk7 => k_is); (case zqk8 => ktr_room); (case zqk9 => first | exact BindsTo.of_eq rfl | exact binds_K (by k_in) rfl (by k_is) rfl rfl rfl); (case zqc5 => decide); (case zqkB => exact locs rfl); (case zqc2 => exact rfl); (case zqc3 => exact rfl); (case zqc4 => exact rfl); k_whole)
  intro g' L' h' hg FG' F' N' B' X' T' l0
  (try dsimp only); (try k_fold)
  repeat' (first | ((with_reducible show UnrEndW _ _ _ _ _ _); ktu_end; (try dsimp only)) | ((with_reducible show wpAny _ _ (execs [Stmt.Assign [Expr.Name _ _] (Expr.Call _ _ _ _) _] _) _ _ _); k_here; k_dflt (refine' mixturn w mean mg mb _ _ _ _ _ _ _ _ _ _ _ _ _ _ _ _ _ _ _ _ _ dp un gd cn cs L aZ ccd cl outer base _ _ _ ?h1 ?h2 ?h3 ?k1 ?hse ?fse ?le ?mq ?mn ?mt ?m1 ?m2 ?m3 _ _ _ ?B ?X ?T ?F ?N hk hd hu ?_; (case B => k_asm); (case X => k_asm); (case T => k_asm); (case F => k_asm); (case N => k_asm); (case mq => exact rfl); (case mn => exact rfl); (case mt => exact rfl); (case m1 => k_mem); (case m2 => k_mem); (case m3 => k_mem); (case h1 => assumption); (case h2 => assumption); (case h3 => assumption); (case k1 => assumption); (case hse => assumption); (case fse => first | assumption | constructor); (case le => assumption); k_whole); intro D7 D8 o7 u71 u72 u73 u74 h7 tk7 F7 N7 e71 e72 e73; (replace N7 := dropN7 N7); (have f70 := e73 _ (.head _)); (have f71 := e73 _ (.tail _ (.head _))); (have f72 := e73 _ (.tail _ (.tail _ (.head _)))); (have f73 := e73 _ (.tail _ (.tail _ (.tail _ (.head _))))); (have f74 := e73 _ (.tail _ (.tail _ (.tail _ (.tail _ (.head _)))))); clear e73; (try dsimp only at f70 f71 f72 f73 f74); (try walk_at "mine split"); (try k_sweep); (try dsimp only); (try k_fold)) |  ((with_reducible show wpAny _ _ (call (Value.ref _) _ _) _ _ _); (k_here; k_dflt (refine' tell_use (rgb_grey _ _ _ _ _ _ _ _ _ _ ?zqh1 ?zqh2) ?zqB ?zqF ?zqX ?zqN ?zqT ?zqhk ?zqhd ?zqhu ?zqhs ?_; (case zqB => k_asm); (case zqF => k_asm); (case zqX => k_asm); (case zqN => k_asm); (case zqT => k_asm); (case zqhk => first | exact rfl | assumption); (case zqhd => ktr_room); (case zqhu => ktr_units); (case zqhs => k_subL); (case zqh1 => first | assumption | omega); (case zqh2 => first | assumption | omega); k_whole); intro r9 tl9 h9 tk9 p9 k9 F9 N9 e9; obtain ⟨D9, x9, t91, t92, t93, r9e, tl9e⟩ := p9; subst r9e; subst tl9e; (try simp only [List.cons_append, List.nil_append] at N9); (try simp only [NeAlls, NeAll, and_true, true_and, and_assoc] at e9); (repeat (have e8 := e9.1; replace e9 := e9.2)); (try k_sweep); (try dsimp only); (try k_fold))) | (k_unfold; (try dsimp only)) | (k_end; wrow_close) | (walk1 <;> (try dsimp only) <;> (try walk_at "mine split")) | (dsimp only; walk1) | (leave1; walk_say "STEP leave1"; try dsimp only) | fail "no step")
  all_goals first
  | (exfalso; omega)
  | exact tell_fin2 hret hg (by k_asm) (by k_asm) N (by k_subL) (⟨_, _, _, _, _, rfl, rfl⟩) (by k_subL) (by walk_at "mine ne")
end
end
section
section
variable {prog : Program} {w : World} {A : Around} {E : Value → Shared → Prop} {s : Shared} {env : Env} {h₀ : Heap} {target : Expr} {body : List Stmt} {Q : Flow → Shared → Prop}
/-- what a turn of a for leaves -/
noncomputable def TurnQ (h₀ : Heap) (L : Addr) (s : Shared) (I : Addr) (oI : Obj) (J : (Str → Option Value) → List (Addr × Obj) → Prop) (f : Flow) (s₃ : Shared) : Prop :=
  (f = .next ∨ f = .cont) ∧ ∃ h' tk' m' news', s₃ = { s with heap := h', toks := tk' } ∧ Fr h₀ L h' m' ∧ News h₀ L h' ((I, oI) :: news') ∧ (∀ p ∈ news', p.1 ≠ I) ∧ J m' news'
theorem itemsInv {I : Addr} {keep : Addr × Obj} (J : Nat → (Str → Option Value) → List (Addr × Obj) → Prop) (vs : List Value) (hk : ∀ i m news, J i m news → keep ∈ news)
    (step : ∀ i v m news oI h tk, vs[i]? = some v → J i m news → oI.cls = .type "list_iterator" → Fr h₀ env.locals h m → News h₀ env.locals h ((I, oI) :: news) →
      wpAny (model prog w) A (assign target env v) (fun _ s₂ => wpAny (model prog w) A (execs body env) (TurnQ h₀ env.locals { s with heap := h, toks := tk } I oI (J (i + 1))) E s₂) E { s with heap := h, toks := tk })
    (done : ∀ h tk m news, Fr h₀ env.locals h m → News h₀ env.locals h news → J vs.length m news → Q .next { s with heap := h, toks := tk }) :
    ∀ (j i : Nat), i + j = vs.length → ∀ m news, J i m news → ItemsRest prog w A E h₀ env target body Q s [(I, "list_iterator")] [keep] ((vs.drop i).map .val) m news := by
  intro j
  induction j with
  | zero =>
    intro i hi m news hJ
    have hi' : i = vs.length := hi
    rw [List.drop_of_length_le (Nat.le_of_eq hi'.symm)]
    exact ItemsRest.zero fun h tk F N => done h tk m news F N (hi' ▸ hJ)
  | succ j ih =>
    intro i hi m news hJ
    have hlt : i < vs.length := by omega
    rw [List.drop_eq_getElem_cons hlt]
    refine ItemsRest.val fun h tk F => AllObj.cons fun oI hc => AllObj.nil fun N => ?_
    refine wpAny_mono (step i vs[i] m news oI h tk (List.getElem?_eq_getElem hlt) hJ hc F N) (fun _ s₂ h₂ => wpAny_mono h₂ (fun f s₃ h₃ => ?_) fun _ _ e => e) fun _ _ e => e
    obtain ⟨hf, h', tk', m', news', rfl, F', N', off, hJ'⟩ := h₃
    have fin : UnrEndW h₀ env.locals { s with heap := h, toks := tk } [(I, oI)] (fun m' n' => SubL [keep] n' ∧ ItemsRest prog w A E h₀ env target body Q s [(I, "list_iterator")] [keep] ((vs.drop (i + 1)).map .val) m' n') { s with heap := h', toks := tk' } :=
      ⟨h', tk', m', news', rfl, F', N', fun p hp q hq => by rw [List.mem_singleton.mp hq]; exact off p hp, And.intro (hk _ _ _ hJ') trivial, ih (i + 1) (by omega) m' news' hJ'⟩
    rcases hf with rfl | rfl
    · exact fin
    · exact fin
/-- a for over a list of the ledger, by an invariant of the turn's number, the frame and the ledger -/
theorem for_inv {iter : Expr} {pos : Pos} {m : Str → Option Value} (F₀ : Fr h₀ env.locals s.heap m)
    (h : wpAny (model prog w) A (eval iter env) (fun xv s₁ => ∃ (ax : Addr) (vs : List Value) (k : Nat) (m₁ : Str → Option Value) (news : List (Addr × Obj)) (J : Nat → (Str → Option Value) → List (Addr × Obj) → Prop), xv = .ref ax ∧ A.handled = none ∧
      Fr h₀ env.locals s₁.heap m₁ ∧ News h₀ env.locals s₁.heap news ∧ J 0 m₁ news ∧ (∀ i m' news', J i m' news' → (ax, ({ cls := .type "list", data := .seq vs.toArray k } : Obj)) ∈ news') ∧
      (∀ i v m' news' I oI h tk, vs[i]? = some v → J i m' news' → oI.cls = .type "list_iterator" → (∀ p ∈ news, p.1 < I) → Fr h₀ env.locals h m' → News h₀ env.locals h ((I, oI) :: news') →
        wpAny (model prog w) A (assign target env v) (fun _ s₂ => wpAny (model prog w) A (execs body env) (TurnQ h₀ env.locals { s₁ with heap := h, toks := tk } I oI (J (i + 1))) E s₂) E { s₁ with heap := h, toks := tk }) ∧
      (∀ h tk m' news', Fr h₀ env.locals h m' → News h₀ env.locals h news' → J vs.length m' news' → Q .next { s₁ with heap := h, toks := tk })) E s)
    (hE : PassesOwn (model prog w) A env E) (hs : ∀ x, foldedSetIterable iter env x = pure x := by intro _; rfl) :
    wpAny (model prog w) A (exec (.For target iter body [] pos) env) Q E s := by
  refine For_turns F₀ (wpAny_mono h (fun xv s₁ h₁ => ?_) fun _ _ e => e) hs hE
  obtain ⟨ax, vs, k, m₁, news, J, rfl, hh, F, N, h0, hk, step, done⟩ := h₁
  refine iter_listTurns (vs := vs) hh F N (hk _ _ _ h0) rfl rfl fun I hI => ?_
  have r := itemsInv (prog := prog) (w := w) (A := A) (E := E) (s := s₁) (Q := Q) (env := env) (target := target) (body := body) (I := I) J vs hk (fun i v m' news' oI h tk hv hJ hc F N => step i v m' news' I oI h tk hv hJ hc hI F N) done vs.length 0 (Nat.zero_add _) m₁ news h0
  rw [List.drop_zero] at r
  exact r
end
end
section
open PyProof.Rows.LCg
section
variable {prog : Program} {w : World} {A : Around} {E : Value → Shared → Prop} {s : Shared} {R : Result → Shared → Prop}
theorem kn_turn_last (elt target iter : Expr) (ifs : List Expr) (gens : List Comprehension) (scope : Scope) (pos : Pos) (d : Nat) (it acc : Value) (env : Env) (hg : gens[d]? = some ⟨target, iter, ifs, 0⟩) (hl : gens[d + 1]? = none) :
    compTurn (.ListComp elt gens scope pos) d it acc env = (do
      standAt iter.pos
      match ← pyNext it with
      | none => pure (.done .next)
      | some v =>
        letOwnedTupleGo target it v
        assign target env v
        let mut ok := true
        for c in ifs do
          if ok then ok ← isTrue c env (eval c env)
        if ok then
          (do let _ ← call (.builtin "list.append") [acc, ← eval elt env])
        again (.compLoop (.ListComp elt gens scope pos) d it acc env)) := by
  unfold compTurn
  simp only [hg, hl]
  rfl
theorem kn_turn_mid (elt target iter target' iter' : Expr) (ifs' : List Expr) (gens : List Comprehension) (scope : Scope) (pos : Pos) (d : Nat) (it acc : Value) (env : Env) (hg : gens[d]? = some ⟨target, iter, [], 0⟩) (hl : gens[d + 1]? = some ⟨target', iter', ifs', 0⟩) :
    compTurn (.ListComp elt gens scope pos) d it acc env = (do
      standAt iter.pos
      match ← pyNext it with
      | none => pure (.done .next)
      | some v =>
        letOwnedTupleGo target it v
        assign target env v
        let mut ok := true
        for c in ([] : List Expr) do
          if ok then ok ← isTrue c env (eval c env)
        if ok then
          let x ← eval iter' env
          standAt iter'.pos
          let x ← foldedSetIterable iter' env x
          let _ ← runOwn (.compStart (.ListComp elt gens scope pos) (d + 1) (← holding [x] (pyIter x)) acc env) env
        again (.compLoop (.ListComp elt gens scope pos) d it acc env)) := by
  unfold compTurn
  simp only [hg, hl]
  rfl
theorem kn_start {elt target iter : Expr} {ifs : List Expr} {gens : List Comprehension} {scope : Scope} {pos : Pos} {d : Nat} {it acc : Value} {env : Env} (hg : gens[d]? = some ⟨target, iter, ifs, 0⟩)
    (h0 : codeAny (model prog w) A (.compLoop (.ListComp elt gens scope pos) d it acc env) R s)
    (h : wpAny (model prog w) A (pyIter it) (fun it' s' => codeAny (model prog w) A (.compLoop (.ListComp elt gens scope pos) d it' acc env) R s')
      (notedBy (model prog w) A env fun x s' => R (.error x) s') s) :
    codeAny (model prog w) A (.compStart (.ListComp elt gens scope pos) d it acc env) R s := by
  refine codeAny_of_tree ?_
  show wpAny _ A ((compStart (.ListComp elt gens scope pos) d it acc env).onRaise (fun x => do noteFrame x env; standAt theWindowsPlace)) _ _ s
  refine wpAny_notedAt ?_
  have e : (clausesOf (.ListComp elt gens scope pos))[d]? = some ⟨target, iter, ifs, 0⟩ := hg
  unfold compStart
  rw [e]
  show wpAny _ _ (ask >>= _) _ _ s
  refine wpAny_bind (wpAny_askSetting (wpAny_ite ?_))
  split
  · first
      | exact wpAny_bind (wpAny_pure (wpAny_pure (And.intro rfl h0)))
      | exact wpAny_pure (And.intro rfl h0)
  · first
      | exact wpAny_bind (wpAny_rule (wpAny_bind (wpAny_standAt (wpAny_bind (wpAny_mono h (fun it' s' h' => wpAny_pure (And.intro rfl h')) fun _ _ x => x)))))
      | (refine wpAny_bind (wpAny_rule ?_); show wpAny _ _ (standAt iter.pos >>= _) _ _ s; exact wpAny_bind (wpAny_standAt (wpAny_bind (wpAny_mono h (fun it' s' h' => wpAny_pure (And.intro rfl h')) fun _ _ x => x))))
end
section
variable {prog : Program} {w : World} {A : Around} {s : Shared} {R : Result → Shared → Prop} {elt iter : Expr} {gens : List Comprehension} {scope : Scope} {pos : Pos} {d : Nat} {x : Str} {px : Pos} {I D : Addr} {fp wr : List Addr} {n : Nat} {P : Nat → Value → Prop} {St : Nat → Heap → Prop}
  {env : Env} {m : Str → Option Value} {ys : List Value}
/-- the innermost clause of a comprehension, by an invariant of the number of its turns, the comprehension's names, the list so far, the heap -/
theorem kn_last {ifs : List Expr} (hg : gens[d]? = some ⟨.Name x px, iter, ifs, 0⟩) (hl : gens[d + 1]? = none) (W : Walks prog w A I fp wr n P St)
    (hx : env.kindOf x = some .local) (hp : (env.scope.kind == .class || (env.scope.kind == .module && env.locals != env.globals)) = false) (hDC : D ≠ env.locals) (hDf : D ∉ fp) (hCf : env.locals ∉ fp) {Lx : Addr} (hLf : Lx ∉ fp) (hLC : Lx ≠ env.locals) (hLD : Lx ≠ D)
    (Inv : Nat → (Str → Option Value) → List Value → Heap → Prop)
    (hfr : ∀ i m ys h h', Inv i m ys h → (∀ b o, b ≠ env.locals → b ≠ D → b ∉ wr → h.get? b = some o → h'.get? b = some o) → Inv i m ys h')
    (hlen : ∀ i m ys h, Inv i m ys h → i < n → ys.length ≤ sizeLine)
    (step : ∀ i v h tk m ys E', i < n → P i v → h.Ns env.locals (fun z => if z = x then some v else m z) → h.get? D = some (lst ys) → St (i + 1) h → Inv i m ys h → (∀ b o, b ≠ env.locals → b ≠ D → b ≠ Lx → b ∉ wr → s.heap.get? b = some o → h.get? b = some o) →
      wpAny (model prog w) A (forIn ifs true fun c r => if r = true then do let ok ← isTrue c env (eval c env); pure (ForInStep.yield ok) else pure (ForInStep.yield r)) (fun ok s₃ => ∃ h₃ tk₃, s₃ = { s with heap := h₃, toks := tk₃ } ∧ (∀ b o, b ≠ Lx → h.get? b = some o → h₃.get? b = some o) ∧
        (if ok = true then wpAny (model prog w) A (eval elt env) (fun y s₄ => ∃ h₄ tk₄, s₄ = { s with heap := h₄, toks := tk₄ } ∧ (∀ b o, b ≠ Lx → h₃.get? b = some o → h₄.get? b = some o) ∧ Inv (i + 1) (fun z => if z = x then some v else m z) (ys ++ [y]) h₄) E' s₃
         else Inv (i + 1) (fun z => if z = x then some v else m z) ys h₃)) E' { s with heap := h, toks := tk })
    (hst : St 0 s.heap) (hn : s.heap.Ns env.locals m) (hD : s.heap.get? D = some (lst ys)) (h0 : Inv 0 m ys s.heap)
    (done : ∀ h tk m ys, h.Ns env.locals m → h.get? D = some (lst ys) → Inv n m ys h → (∀ b o, b ≠ env.locals → b ≠ D → b ≠ Lx → b ∉ wr → s.heap.get? b = some o → h.get? b = some o) → R (.ok .next) { s with heap := h, toks := tk }) :
    codeAny (model prog w) A (.compLoop (.ListComp elt gens scope pos) d (.ref I) (.ref D) env) R s := by
  refine codeAny_loop rfl (fun k s' => ∃ (h' : Heap) (tk i : Nat) (m' : Str → Option Value) (ys' : List Value), s' = { s with heap := h', toks := tk } ∧ i ≤ n ∧ k = n + 1 - i ∧ St i h' ∧ h'.Ns env.locals m' ∧ h'.get? D = some (lst ys') ∧ Inv i m' ys' h' ∧
    (∀ b o, b ≠ env.locals → b ≠ D → b ≠ Lx → b ∉ wr → s.heap.get? b = some o → h'.get? b = some o)) ?_ (n + 1) ⟨s.heap, s.toks, 0, m, ys, rfl, Nat.zero_le _, rfl, hst, hn, hD, h0, fun _ _ _ _ _ _ e => e⟩
  rintro k s' ⟨h', tk, i, m', ys', rfl, hi, rfl, hst', hn', hD', hI', hK'⟩
  show wpAny _ A ((compTurn (.ListComp elt gens scope pos) d (.ref I) (.ref D) env).onRaise (fun x => do noteFrame x env; theTreesLotGoes x)) _ _ _
  refine wpAny_noted ?_
  rw [kn_turn_last elt _ iter ifs gens scope pos d (.ref I) (.ref D) env hg hl]
  refine wpAny_bind (wpAny_standAt (wpAny_bind ?_))
  have hCw : env.locals ∉ wr := fun h => hCf (W.sub _ h)
  have hDw : D ∉ wr := fun h => hDf (W.sub _ h)
  by_cases hlt : i < n
  · refine W.item i _ _ _ hlt hst' fun v h₂ tk₂ hPv hst₂ hk₂ => ?_
    refine wpAny_bind (wpAny_of_eq (show letOwnedTupleGo (.Name x px) (.ref I) v = pure () from rfl) ?_)
    refine wpAny_bind (wpAny_assign_Name (wpAny_storeName_local hx (hn'.at' fun o e => hk₂ _ o hCw e) (fun h₃ hn₃ hs₃ => ?_) hp))
    have k23 : ∀ b o, b ≠ env.locals → b ∉ wr → h'.get? b = some o → h₃.get? b = some o := fun b o h1 h2 e => hs₃.extBut b o h1 (hk₂ b o h2 e)
    have hst₃ : St (i + 1) h₃ := W.frame _ _ _ hst₂ fun b hb o e => hs₃.extBut b o (fun q => hCf (q ▸ hb)) e
    have hD₃ := k23 _ _ hDC hDw hD'
    refine wpAny_bind (wpAny_mono (step i v h₃ _ m' ys' _ hlt hPv hn₃ hD₃ hst₃ (hfr _ _ _ _ _ hI' fun b o h1 _ h2 e => k23 b o h1 h2 e) (fun b o h1 h2 hx3 h3 e => k23 b o h1 h3 (hK' b o h1 h2 hx3 h3 e))) (fun ok s₃ h₃' => ?_) fun _ _ e => e)
    obtain ⟨h₄, tk₄, rfl, K4, h5⟩ := h₃'
    cases ok with
    | false =>
      refine wpAny_pure ⟨rfl, n + 1 - (i + 1), by omega, h₄, tk₄, i + 1, _, ys', rfl, hlt, rfl, W.frame _ _ _ hst₃ fun b hb o e => K4 b o (fun q => hLf (q ▸ hb)) e, hn₃.at' fun o e => K4 _ o (Ne.symm hLC) e, K4 _ _ (Ne.symm hLD) hD₃, h5, fun b o h1 h2 hx3 h3 e => K4 _ _ hx3 (k23 b o h1 h3 (hK' b o h1 h2 hx3 h3 e))⟩
    | true =>
      have h5' : wpAny (model prog w) A (eval elt env) (fun y s₄ => ∃ h₆ tk₆, s₄ = { s with heap := h₆, toks := tk₆ } ∧ (∀ b o, b ≠ Lx → h₄.get? b = some o → h₆.get? b = some o) ∧ Inv (i + 1) (fun z => if z = x then some v else m' z) (ys' ++ [y]) h₆) (notedBy (model prog w) A env fun e s' => R (.error e) s') { s with heap := h₄, toks := tk₄ } := h5
      refine wpAny_bind (wpAny_bind (wpAny_mono h5' (fun y s₄ h₆' => ?_) fun _ _ h' => h'))
      obtain ⟨h₆, tk₆, rfl, K6, hI6⟩ := h₆'
      refine wpAny_bind ?_
      refine append_at (hsz := by rw [List.size_toArray]; exact hlen _ _ _ _ hI' hlt) (K6 _ _ (Ne.symm hLD) (K4 _ _ (Ne.symm hLD) hD₃)) fun h₇ hs₇ hD₇ => ?_
      refine wpAny_pure (wpAny_pure ⟨rfl, n + 1 - (i + 1), by omega, h₇, tk₆, i + 1, _, ys' ++ [y], rfl, hlt, rfl, W.frame _ _ _ hst₃ fun b hb o e => hs₇.extBut b o (fun q => hDf (q ▸ hb)) (K6 _ _ (fun q => hLf (q ▸ hb)) (K4 _ _ (fun q => hLf (q ▸ hb)) e)), hn₃.at' fun o e => hs₇.extBut _ o (Ne.symm hDC) (K6 _ _ (Ne.symm hLC) (K4 _ _ (Ne.symm hLC) e)),
        hD₇.trans (congrArg some (lst_snoc ys' y)), hfr _ _ _ _ _ hI6 fun b o _ h2 _ e => hs₇.extBut b o h2 e, fun b o h1 h2 hx3 h3 e => hs₇.extBut b o h2 (K6 _ _ hx3 (K4 _ _ hx3 (k23 b o h1 h3 (hK' b o h1 h2 hx3 h3 e))))⟩)
  · obtain rfl : i = n := Nat.le_antisymm hi (Nat.not_lt.mp hlt)
    refine W.done _ _ _ hst' fun h₂ tk₂ hk₂ => wpAny_pure ?_
    exact done h₂ tk₂ m' ys' (hn'.at' fun o e => hk₂ _ o hCw e) (hk₂ _ _ hDw hD') (hfr _ _ _ _ _ hI' fun b o _ _ h2 e => hk₂ b o h2 e) fun b o h1 h2 hx3 h3 e => hk₂ b o h3 (hK' b o h1 h2 hx3 h3 e)
/-- a clause of a comprehension that has another within it -/
theorem kn_mid {target' iter' : Expr} {ifs' : List Expr} (hg : gens[d]? = some ⟨.Name x px, iter, [], 0⟩) (hl : gens[d + 1]? = some ⟨target', iter', ifs', 0⟩) (W : Walks prog w A I fp wr n P St)
    (hx : env.kindOf x = some .local) (hp : (env.scope.kind == .class || (env.scope.kind == .module && env.locals != env.globals)) = false) (hDC : D ≠ env.locals) (hDf : D ∉ fp) (hCf : env.locals ∉ fp) {Lx : Addr} (hLf : Lx ∉ fp) (hLC : Lx ≠ env.locals) (hLD : Lx ≠ D)
    (Inv : Nat → (Str → Option Value) → List Value → Heap → Prop)
    (hfr : ∀ i m ys h h', Inv i m ys h → (∀ b o, b ≠ env.locals → b ≠ D → b ∉ wr → h.get? b = some o → h'.get? b = some o) → Inv i m ys h')
    (step : ∀ i v h tk m ys E', i < n → P i v → h.Ns env.locals (fun z => if z = x then some v else m z) → h.get? D = some (lst ys) → St (i + 1) h → Inv i m ys h → (∀ b o, b ≠ env.locals → b ≠ D → b ≠ Lx → b ∉ wr → s.heap.get? b = some o → h.get? b = some o) →
      wpAny (model prog w) A (eval iter' env) (fun xv s₃ => wpAny (model prog w) A (pyIter xv) (fun it' s₅ => codeAny (model prog w) A (.compStart (.ListComp elt gens scope pos) (d + 1) it' (.ref D) env)
        (fun r s₆ => ∃ f h₆ tk₆ m₆ ys₆, r = .ok f ∧ s₆ = { s with heap := h₆, toks := tk₆ } ∧ (∀ b o, b ≠ env.locals → b ≠ D → b ≠ Lx → h.get? b = some o → h₆.get? b = some o) ∧ h₆.Ns env.locals m₆ ∧ h₆.get? D = some (lst ys₆) ∧ Inv (i + 1) m₆ ys₆ h₆) s₅) E' s₃) E' { s with heap := h, toks := tk })
    (hst : St 0 s.heap) (hn : s.heap.Ns env.locals m) (hD : s.heap.get? D = some (lst ys)) (h0 : Inv 0 m ys s.heap)
    (done : ∀ h tk m ys, h.Ns env.locals m → h.get? D = some (lst ys) → Inv n m ys h → (∀ b o, b ≠ env.locals → b ≠ D → b ≠ Lx → b ∉ wr → s.heap.get? b = some o → h.get? b = some o) → R (.ok .next) { s with heap := h, toks := tk })
    (hs : ∀ x, foldedSetIterable iter' env x = pure x := by intro _; rfl) :
    codeAny (model prog w) A (.compLoop (.ListComp elt gens scope pos) d (.ref I) (.ref D) env) R s := by
  refine codeAny_loop rfl (fun k s' => ∃ (h' : Heap) (tk i : Nat) (m' : Str → Option Value) (ys' : List Value), s' = { s with heap := h', toks := tk } ∧ i ≤ n ∧ k = n + 1 - i ∧ St i h' ∧ h'.Ns env.locals m' ∧ h'.get? D = some (lst ys') ∧ Inv i m' ys' h' ∧
    (∀ b o, b ≠ env.locals → b ≠ D → b ≠ Lx → b ∉ wr → s.heap.get? b = some o → h'.get? b = some o)) ?_ (n + 1) ⟨s.heap, s.toks, 0, m, ys, rfl, Nat.zero_le _, rfl, hst, hn, hD, h0, fun _ _ _ _ _ _ e => e⟩
  rintro k s' ⟨h', tk, i, m', ys', rfl, hi, rfl, hst', hn', hD', hI', hK'⟩
  show wpAny _ A ((compTurn (.ListComp elt gens scope pos) d (.ref I) (.ref D) env).onRaise (fun x => do noteFrame x env; theTreesLotGoes x)) _ _ _
  refine wpAny_noted ?_
  rw [kn_turn_mid elt _ iter target' iter' ifs' gens scope pos d (.ref I) (.ref D) env hg hl]
  refine wpAny_bind (wpAny_standAt (wpAny_bind ?_))
  have hCw : env.locals ∉ wr := fun h => hCf (W.sub _ h)
  have hDw : D ∉ wr := fun h => hDf (W.sub _ h)
  by_cases hlt : i < n
  · refine W.item i _ _ _ hlt hst' fun v h₂ tk₂ hPv hst₂ hk₂ => ?_
    refine wpAny_bind (wpAny_of_eq (show letOwnedTupleGo (.Name x px) (.ref I) v = pure () from rfl) ?_)
    refine wpAny_bind (wpAny_assign_Name (wpAny_storeName_local hx (hn'.at' fun o e => hk₂ _ o hCw e) (fun h₃ hn₃ hs₃ => ?_) hp))
    have k23 : ∀ b o, b ≠ env.locals → b ∉ wr → h'.get? b = some o → h₃.get? b = some o := fun b o h1 h2 e => hs₃.extBut b o h1 (hk₂ b o h2 e)
    have hst₃ : St (i + 1) h₃ := W.frame _ _ _ hst₂ fun b hb o e => hs₃.extBut b o (fun q => hCf (q ▸ hb)) e
    have hD₃ := k23 _ _ hDC hDw hD'
    have st := fun tkk E' => step i v h₃ tkk m' ys' E' hlt hPv hn₃ hD₃ hst₃ (hfr _ _ _ _ _ hI' fun b o h1 _ h2 e => k23 b o h1 h2 e) (fun b o h1 h2 hx3 h3 e => k23 b o h1 h3 (hK' b o h1 h2 hx3 h3 e))
    refine wpAny_bind (wpAny_tests_nil ?_)
    refine wpAny_bind (wpAny_mono (st _ _) (fun xv s₄ h₄ => ?_) fun _ _ e => e)
    refine wpAny_bind (wpAny_standAt (wpAny_bind (wpAny_of_eq (hs xv) (wpAny_bind (wpAny_holding (wpAny_mono h₄ (fun it' s₅ h₅ => ?_) fun _ _ e => e))))))
    refine wpAny_bind (wpAny_runOwn (codeAny_mono h₅ fun r s₆ h₆ => ?_))
    obtain ⟨f, h₆, tk₆, m₆, ys₆, rfl, rfl, K6, hn₆, hD₆, hI₆⟩ := h₆
    refine wpAny_pure ⟨rfl, n + 1 - (i + 1), by omega, h₆, tk₆, i + 1, m₆, ys₆, rfl, hlt, rfl, W.frame _ _ _ hst₃ fun b hb o e => K6 b o (fun q => hCf (q ▸ hb)) (fun q => hDf (q ▸ hb)) (fun q => hLf (q ▸ hb)) e, hn₆, hD₆, hI₆, fun b o h1 h2 hx3 h3 e => K6 b o h1 h2 hx3 (k23 b o h1 h3 (hK' b o h1 h2 hx3 h3 e))⟩
  · obtain rfl : i = n := Nat.le_antisymm hi (Nat.not_lt.mp hlt)
    refine W.done _ _ _ hst' fun h₂ tk₂ hk₂ => wpAny_pure ?_
    exact done h₂ tk₂ m' ys' (hn'.at' fun o e => hk₂ _ o hCw e) (hk₂ _ _ hDw hD') (hfr _ _ _ _ _ hI' fun b o _ _ h2 e => hk₂ b o h2 e) fun b o h1 h2 hx3 h3 e => hk₂ b o h3 (hK' b o h1 h2 hx3 h3 e)
end
/-- a comprehension's head: what is made ahead of its first clause -/
theorem kn_top {prog : Program} {w : World} {A : Around} {s : Shared} {E : Value → Shared → Prop} {env : Env} {elt target iter : Expr} {ifs : List Expr} {gs : List Comprehension} {scope : Scope} {cl : List (Str × Addr)} {pos : Pos} {Q : Value → Shared → Prop}
    (hclos : closureFor scope env = pure cl) (hcell : ∀ y ∈ scope.names, y.2 ≠ .cell) (hkind : scope.kind = .function) (hnames : ∀ y ∈ scope.names, y.2 = .local → scope.names.lookup y.1 = some .local)
    (hi : wpAny (model prog w) A (eval iter env) (fun xv s₁ => wpAny (model prog w) A (pyIter xv) (fun it s₂ => ∀ h₁ tk₁ (C D : Addr), D = s₂.heap.objs.size → C = s₂.heap.objs.size + 1 → (∀ b o, s₂.heap.get? b = some o → h₁.get? b = some o) → h₁.Ns C (fun _ => none) → h₁.get? D = some (lst []) →
        codeAny (model prog w) A (.compStart (.ListComp elt (⟨target, iter, ifs, 0⟩ :: gs) scope pos) 0 it (.ref D) (compEnvC scope cl C env))
          (fun r s' => ∃ f m', r = .ok f ∧ s'.heap.Ns C m' ∧ ∀ h', Heap.SameBut C s'.heap h' → Q (.ref D) { s' with heap := h' }) { s₂ with heap := h₁, toks := tk₁ }) E s₁) E s)
    (hs : ∀ x, foldedSetIterable iter env x = pure x := by intro _; rfl) :
    wpAny (model prog w) A (eval (.ListComp elt (⟨target, iter, ifs, 0⟩ :: gs) scope pos) env) Q E s := by
  rw [eval_ListComp]
  refine wpAny_comprehension_free (use := none) rfl hs hclos hkind hnames (wpAny_mono hi (fun xv s₁ h₁ => ?_) fun _ _ e => e)
  refine wpAny_mono h₁ (fun it s₂ h₂ => ?_) fun _ _ e => e
  refine wpAny_newObj_type (wpAny_newFunctionEnv hcell (by intro y hy; simp at hy) (fun h₁ hns₁ hsb₁ => ?_) hkind)
  dsimp only at hns₁ hsb₁ ⊢
  have hsz : (s₂.heap.push { cls := .type "list", dict := none, data := .seq ([] : List Value).toArray }).objs.size = s₂.heap.objs.size + 1 := by rw [Heap.size_push]
  generalize hH2 : s₂.heap.push { cls := .type "list", dict := none, data := .seq ([] : List Value).toArray } = H2 at *
  have old : ∀ b o, s₂.heap.get? b = some o → h₁.get? b = some o := fun b o e => hsb₁.extBut b o (by show b ≠ H2.objs.size; rw [hsz]; exact Nat.ne_of_lt (Nat.lt_succ_of_lt (Heap.lt_size e))) (Heap.get?_push_of_some _ (hH2 ▸ Heap.get?_push_of_some _ e))
  have hD₁ : h₁.get? s₂.heap.objs.size = some (lst []) := hsb₁.extBut _ _ (by show s₂.heap.objs.size ≠ H2.objs.size; rw [hsz]; exact Nat.ne_of_lt (Nat.lt_succ_self _)) (Heap.get?_push_of_some _ (by rw [← hH2]; exact Heap.get?_push_size _ rfl))
  refine codeAny_mono (h₂ h₁ _ H2.objs.size s₂.heap.objs.size rfl hsz old (by simpa using hns₁) hD₁) fun r s' hr => ?_
  obtain ⟨f, m', rfl, hn', hq⟩ := hr
  exact ⟨m', hn', hq⟩
end
section
local macro_rules | `(tactic| walk_at "mine agr") => `(tactic| first | exact Agr.refl | (refine Agr.set ?_ (by decide); walk_at "mine agr"))
local macro_rules | `(tactic| walk_at "mine mem") => `(tactic| first | exact List.Mem.head _ | assumption | (refine' List.Mem.tail _ ?_; walk_at "mine mem"))
local macro_rules | `(tactic| k_all) => `(tactic| first | assumption | exact neOfLt (by with_reducible assumption))
local macro_rules | `(tactic| k_all) => `(tactic| first | with_reducible assumption | exact neOfLt (by with_reducible assumption) | exact List.forall_mem_nil _ | (refine' List.forall_mem_cons.mpr ⟨?a, ?b⟩; (case a => k_ne); (case b => k_all)))
section
local macro_rules | `(tactic| walk_at "Src3") => `(tactic| k_dflt (refine' src3_rgb (by rfl) (by k_asm) (by k_asm) (by k_mem) (by k_mem) (by k_mem) (by k_mem) ?_ ?_ ?_ ?_))

set_option maxRecDepth 100000 in
set_option maxHeartbeats 8000000 in
theorem told_turn (w : World) (mean mg mb) (h₀ : Heap) (L aL : Addr) (cd : Value) (m : Str → Option Value) (x y z t : Addr) (aX bX cX aY bY cY aZ bZ cZ : Int) (tx1 tx2 tx3 ty1 ty2 ty3 tz1 tz2 tz3 : Tok) (items : List Value) (k : Nat) (rest : List (Addr × Obj))
   (ha1 : 0 ≤ aX ∧ aX ≤ 8) (hb1 : 0 ≤ bX ∧ bX ≤ 8) (hc1 : 0 ≤ cX ∧ cX ≤ 8) (ha2 : 0 ≤ aY ∧ aY ≤ 8) (hb2 : 0 ≤ bY ∧ bY ≤ 8) (hc2 : 0 ≤ cY ∧ cY ≤ 8) (ha3 : 0 ≤ aZ ∧ aZ ≤ 8) (hb3 : 0 ≤ bZ ∧ bZ ≤ 8) (hc3 : 0 ≤ cZ ∧ cZ ≤ 8) (mx : (x, tup3 aX bX cX tx1 tx2 tx3) ∈ rest) (my : (y, tup3 aY bY cY ty1 ty2 ty3) ∈ rest) (mz : (z, tup3 aZ bZ cZ tz1 tz2 tz3) ∈ rest) (hm : m "told" = some (.ref t)) (hx : m "x" = some (.ref x)) (hy : m "y" = some (.ref y)) (hz : m "z" = some (.ref z)) (hk : items.length ≤ 27) (hnt : ∀ p ∈ rest, p.1 ≠ t) (s : Shared) (Q : Flow → Shared → Prop) (E : Value → Shared → Prop)
   (B : Below callerA h₀ [] h₀) (X : (Mine.hd.heap_1 w.params).In h₀) (T : Top VW LO mean mg mb h₀) (F : Fr h₀ L s.heap m) (N : News h₀ L s.heap ((t, ({ cls := .type "list", data := .seq items.toArray k } : Obj)) :: rest))
   (hno : canB aX bX cX aY bY cY aZ bZ cZ = false → ∀ h' tk', Fr h₀ L h' m → News h₀ L h' ((t, ({ cls := .type "list", data := .seq items.toArray k } : Obj)) :: rest) → Q .next { s with heap := h', toks := tk' }) (hyes : canB aX bX cX aY bY cY aZ bZ cZ = true → ∀ D h' tk', Fr h₀ L h' m → News h₀ L h' ((D, ({ cls := .type "list", data := .seq #[.ref x, .ref y, .ref z] 0 } : Obj)) :: (t, ({ cls := .type "list", data := .seq (items.toArray.push (.ref D)) (k + 1) } : Obj)) :: rest) → D ≠ t → Q .next { s with heap := h', toks := tk' }) :
    wpAny (model PySem.Challenge.rw_pg0251_01.row.prog w) (lawA w L aL cd) (exec (lawIf w) (lawE w L aL cd)) Q E s := by
  w_on; revert X; k_fill; intro X
  k_dflt (show wpAny _ (callerA.deeper (envOfC _ (Scope.mk _ _ _ _ _) _ _ _)) (exec (.If _ _ _ _) (envOfC _ (Scope.mk _ _ _ _ _) _ _ _)) _ _ _)
  (try dsimp only); (try k_fold)
  repeat' (first |  ((with_reducible show wpAny _ _ (call (Value.ref _) _ _) _ _ _); (k_here; k_dflt (refine' tell_use (can_tell _ _ _ _ _ _ _ _ _ _ _ _ _ _ _ _ _ _ _ _ _ _ _ _ _ _ _ ) ?zqB ?zqF ?zqX ?zqN ?zqT ?zqhk ?zqhd ?zqhu ?zqhs ?_; (case zqB => k_asm); (case zqF => k_asm); (case zqX => k_asm); (case zqN => k_asm); (case zqT => k_asm); (case zqhk => first | exact rfl | assumption); (case zqhd => ktr_room); (case zqhu => ktr_units); (case zqhs => k_subL);  k_whole); intro r9 tl9 h9 tk9 p9 k9 F9 N9 e9; obtain ⟨tl9e, r9e⟩ := p9; subst r9e; subst tl9e; (try simp only [List.cons_append, List.nil_append] at N9); (try simp only [NeAlls, NeAll, and_true, true_and, and_assoc] at e9); (repeat (have e8 := e9.1; replace e9 := e9.2)); (try k_sweep); (try dsimp only); (try k_fold))) | ((with_reducible show wpAny _ _ (call (Value.ref _) _ _) _ _ _); (k_here; k_dflt (refine' rgb_tell _ _ _ _ _ _ _ _ _ _ ?zqh1 ?zqh2 ?zqh3 _ _ _ _ _ _ _ _ _ _ _ _ _ _ _ _ _ ?zqB ?zqF ?zqX ?zqN ?zqT ?zqhk ?zqhd ?zqhu ?zqret; (case zqB => k_asm); (case zqF => k_asm); (case zqX => k_asm); (case zqN => exact fun p hp => nomatch hp); (case zqT => k_asm); (case zqhk => first | exact rfl | assumption); (case zqhd => ktr_room); (case zqhu => ktr_units); (case zqh1 => assumption); (case zqh2 => assumption); (case zqh3 => assumption); (case zqret => intro r9 tl9 h9 tk9 k9 n9 p9; obtain ⟨D9, x9, t91, t92, t93, r9e, tl9e⟩ := p9; subst r9e; subst tl9e; exact ⟨_, _, _, _, rfl, rfl, k9, n9, _, _, _, _, rfl⟩)))) | ((with_reducible show wpAny _ _ (eval (Expr.ListComp _ _ _ _) _) _ _ _); (k_here; k_dflt (refine' comp3 (by k_asm) (by rfl) (by decide) (by rfl) (by decide) (by rfl) (by rfl) (by rfl) (by decide) (by decide) (by decide) ?_))) | ((with_reducible show wpAny _ _ (call (Value.builtin "list.append") _ _) _ _ _); (k_here; (try dsimp only [List.cons_append, List.nil_append]); k_dflt (refine' append_K ?zqk1 ?zqk2 ?zqk3 ?_ ?zqz; (case zqk1 => k_asm); (case zqk2 => k_asm); (case zqk3 => k_upd); (case zqz => rw [List.size_toArray]; exact Nat.le_trans (by assumption) (Nat.le_of_ble_eq_true rfl))); intro h' F' N'; (try k_sweep))) | ((with_reducible show wpAny _ _ (exec (Stmt.For (Expr.Name _ _) (Expr.Name _ _) _ _ _) _) _ _ _); (k_here; (rename Fr _ _ _ _ => lF'); (with_unfolding_all refine' For_turns lF' ?_; k_whole))) | ((with_reducible show wpAny _ _ (call (Value.builtin "list.insert") _ _) _ _ _); ((with_reducible show wpAny _ _ (call _ (_ ++ _)) _ _ _); dsimp only [List.cons_append, List.nil_append])) | ((with_reducible show wpAny _ _ (subscriptTail _ _ (Value.ref _) _) _ _ _); (k_here; (with_reducible show wpAny _ _ (subscriptTail _ _ (Value.ref _) (Value.int _ _)) _ _ _); k_dflt (refine' sub_any ?zqk1 ?zqk2 ?zqkh ?zqk3 ?zqk4 ?zqk5 ?_; (case zqk1 => k_asm); (case zqk2 => k_mem); (case zqkh => first | exact .inr ⟨_, rfl⟩ | exact .inl ⟨_, rfl⟩); (case zqk3 => decide); (case zqk4 => decide); (case zqk5 => rfl)))) | ((with_reducible show wpAny _ _ (eval (Expr.Name _ _) _) _ _ _); (k_here; k_dflt (refine' nameX_L ?zqk1 ?zqk2 ?_; (case zqk1 => k_asm); (case zqk2 => assumption)))) | (k_dflt (unfold Turn3; intro C' oC' m' h' tk' E' hC' hx1 hx2 hx3 F' N')) | ((with_reducible refine fun (D' : Addr) => ?_); intro d1' d2' d3' y1' y2' y3' r1' r2' r3' r4' r5' r6' r7' r8' r9' h' tk' F' N' ne'; simp only [NeAll] at ne'; obtain ⟨ne1, ne2, ne3, ne4⟩ := ne') | (k_unfold; (try dsimp only)) | (k_end; wrow_close) | (walk1 <;> (try dsimp only) <;> (try walk_at "mine split")) | (dsimp only; walk1) | (leave1; walk_say "STEP leave1"; try dsimp only) | fail "no step")
  all_goals first
  | exact hyes (by assumption) _ _ _ (by k_asm) (consN (by k_asm) (by k_mem) (by first | exact sufN (by k_asm) [] rfl | exact sufN (by k_asm) [_] rfl | exact sufN (by k_asm) [_, _] rfl | exact sufN (by k_asm) [_, _, _] rfl | exact sufN (by k_asm) [_, _, _, _] rfl | exact sufN (by k_asm) [_, _, _, _, _] rfl | exact sufN (by k_asm) [_, _, _, _, _, _] rfl | exact sufN (by k_asm) [_, _, _, _, _, _, _] rfl | exact sufN (by k_asm) [_, _, _, _, _, _, _, _] rfl | exact sufN (by k_asm) [_, _, _, _, _, _, _, _, _] rfl | exact sufN (by k_asm) [_, _, _, _, _, _, _, _, _, _] rfl | exact sufN (by k_asm) [_, _, _, _, _, _, _, _, _, _, _] rfl | exact sufN (by k_asm) [_, _, _, _, _, _, _, _, _, _, _, _] rfl | exact sufN (by k_asm) [_, _, _, _, _, _, _, _, _, _, _, _, _] rfl)) (by k_ne)
  | exact hno (by first | assumption | exact Bool.eq_false_iff.mpr (by assumption)) _ _ (by k_asm) (by first | exact sufN (by k_asm) [] rfl | exact sufN (by k_asm) [_] rfl | exact sufN (by k_asm) [_, _] rfl | exact sufN (by k_asm) [_, _, _] rfl | exact sufN (by k_asm) [_, _, _, _] rfl | exact sufN (by k_asm) [_, _, _, _, _] rfl | exact sufN (by k_asm) [_, _, _, _, _, _] rfl | exact sufN (by k_asm) [_, _, _, _, _, _, _] rfl | exact sufN (by k_asm) [_, _, _, _, _, _, _, _] rfl | exact sufN (by k_asm) [_, _, _, _, _, _, _, _, _] rfl | exact sufN (by k_asm) [_, _, _, _, _, _, _, _, _, _] rfl | exact sufN (by k_asm) [_, _, _, _, _, _, _, _, _, _, _] rfl | exact sufN (by k_asm) [_, _, _, _, _, _, _, _, _, _, _, _] rfl | exact sufN (by k_asm) [_, _, _, _, _, _, _, _, _, _, _, _, _] rfl)
end
section
/-- the objects of the triples told: a list each -/
@[reducible] noncomputable def xyzO (q : Addr × Addr × Addr) : Obj := { cls := .type "list", data := .seq #[.ref q.1, .ref q.2.1, .ref q.2.2] 0 }
noncomputable def tobj : List Addr → List (Addr × Addr × Addr) → List (Addr × Obj)
  | D :: Ds, q :: qs => (D, xyzO q) :: tobj Ds qs
  | _, _ => []
theorem tobj_snoc : ∀ (Ds : List Addr) (qs : List (Addr × Addr × Addr)) (D : Addr) (q : Addr × Addr × Addr), Ds.length = qs.length → tobj (Ds ++ [D]) (qs ++ [q]) = tobj Ds qs ++ [(D, xyzO q)]
  | [], [], _, _, _ => rfl
  | E :: Ds, p :: qs, D, q, h => by
    show (E, xyzO p) :: tobj (Ds ++ [D]) (qs ++ [q]) = _
    rw [tobj_snoc Ds qs D q (by simpa using h)]; rfl
  | [], _ :: _, _, _, h => by simp at h
  | _ :: _, [], _, _, h => by simp at h
theorem tobj_mem : ∀ (Ds : List Addr) (qs : List (Addr × Addr × Addr)) (p : Addr × Obj), p ∈ tobj Ds qs → p.1 ∈ Ds
  | [], _, p, h => by simp [tobj] at h
  | _ :: _, [], p, h => by simp [tobj] at h
  | E :: Ds, q :: qs, p, h => by
    rcases List.mem_cons.mp h with rfl | h
    · exact .head _
    · exact .tail _ (tobj_mem Ds qs p h)
/-- told, and the objects in it -/
noncomputable def TI (t : Addr) (ts : List (Addr × Addr × Addr)) (items : List Value) (objs : List (Addr × Obj)) : Prop := ∃ Ds : List Addr, items = Ds.map Value.ref ∧ objs = tobj Ds ts ∧ Ds.length = ts.length ∧ ∀ D ∈ Ds, D ≠ t
theorem TI.nil {t : Addr} : TI t [] [] [] := ⟨[], rfl, rfl, rfl, fun _ h => nomatch h⟩
theorem TI.ne {t : Addr} {ts : List (Addr × Addr × Addr)} {items : List Value} {objs : List (Addr × Obj)} (h : TI t ts items objs) : ∀ p ∈ objs, p.1 ≠ t := fun p hp => by
  obtain ⟨Ds, _, e, _, n⟩ := h
  subst e
  exact n _ (tobj_mem _ _ _ hp)
theorem TI.len {t : Addr} {ts : List (Addr × Addr × Addr)} {items : List Value} {objs : List (Addr × Obj)} (h : TI t ts items objs) : items.length = ts.length := by
  obtain ⟨Ds, e, _, l, _⟩ := h
  rw [e, List.length_map, l]
theorem TI.snoc {t : Addr} {ts : List (Addr × Addr × Addr)} {items : List Value} {objs : List (Addr × Obj)} {D : Addr} {q : Addr × Addr × Addr} (h : TI t ts items objs) (hD : D ≠ t) : TI t (ts ++ [q]) (items ++ [.ref D]) (objs ++ [(D, xyzO q)]) := by
  obtain ⟨Ds, rfl, rfl, l, n⟩ := h
  refine ⟨Ds ++ [D], by simp, (tobj_snoc Ds ts D q l).symm, by simp [l], fun E hE => ?_⟩
  rcases List.mem_append.mp hE with hE | hE
  · exact n _ hE
  · rw [List.mem_singleton.mp hE]; exact hD
noncomputable def addIf (b : Bool) (ts : List (Addr × Addr × Addr)) (q : Addr × Addr × Addr) : List (Addr × Addr × Addr) := if b = true then ts ++ [q] else ts
theorem addIf_len (b : Bool) (ts : List (Addr × Addr × Addr)) (q : Addr × Addr × Addr) : (addIf b ts q).length ≤ ts.length + 1 := by
  unfold addIf; split <;> simp
/-- the If within the three loops, told's ways met again -/
noncomputable def TIn (n : Nat) (t : Addr) (ts : List (Addr × Addr × Addr)) (items : List Value) (objs : List (Addr × Obj)) : Prop := TI t ts items objs ∧ ts.length ≤ n
theorem told_cut (w : World) (mean mg mb) (h₀ : Heap) (L aL : Addr) (cd : Value) (m : Str → Option Value) (x y z t : Addr) (aX bX cX aY bY cY aZ bZ cZ : Int) (tx1 tx2 tx3 ty1 ty2 ty3 tz1 tz2 tz3 : Tok) (items : List Value) (k : Nat) (pre base objs : List (Addr × Obj)) (ts : List (Addr × Addr × Addr))
    (hx8 : In8 aX bX cX) (hy8 : In8 aY bY cY) (hz8 : In8 aZ bZ cZ) (mx : (x, tup3 aX bX cX tx1 tx2 tx3) ∈ base) (my : (y, tup3 aY bY cY ty1 ty2 ty3) ∈ base) (mz : (z, tup3 aZ bZ cZ tz1 tz2 tz3) ∈ base)
    (hm : m "told" = some (.ref t)) (hx : m "x" = some (.ref x)) (hy : m "y" = some (.ref y)) (hz : m "z" = some (.ref z)) {n : Nat} (hIn : TIn n t ts items objs) (hl : n ≤ 27) (hnp : ∀ p ∈ pre, p.1 ≠ t) (hnb : ∀ p ∈ base, p.1 ≠ t)
    (s : Shared) (Q : Flow → Shared → Prop) (E : Value → Shared → Prop)
    (B : Below callerA h₀ [] h₀) (X : (Mine.hd.heap_1 w.params).In h₀) (T : Top VW LO mean mg mb h₀) (F : Fr h₀ L s.heap m) (N : News h₀ L s.heap (pre ++ (t, ({ cls := .type "list", data := .seq items.toArray k } : Obj)) :: (base ++ objs)))
    (c : ∀ h' tk' items' k' objs', Fr h₀ L h' m → News h₀ L h' (pre ++ (t, ({ cls := .type "list", data := .seq items'.toArray k' } : Obj)) :: (base ++ objs')) → TIn (n + 1) t (addIf (canB aX bX cX aY bY cY aZ bZ cZ) ts (x, y, z)) items' objs' → Q .next { s with heap := h', toks := tk' }) :
    wpAny (model PySem.Challenge.rw_pg0251_01.row.prog w) (lawA w L aL cd) (exec (lawIf w) (lawE w L aL cd)) Q E s := by
  have hI := hIn.1
  have hlen := fun b => Nat.le_trans (addIf_len b ts (x, y, z)) (Nat.succ_le_succ hIn.2)
  have N1 : News h₀ L s.heap ((t, ({ cls := .type "list", data := .seq items.toArray k } : Obj)) :: (base ++ (pre ++ objs))) := fun p hp => N p (by
    simp only [List.mem_append, List.mem_cons] at hp ⊢
    rcases hp with h | h | h | h
    · exact .inr (.inl h)
    · exact .inr (.inr (.inl h))
    · exact .inl h
    · exact .inr (.inr (.inr h)))
  refine told_turn w mean mg mb h₀ L aL cd m x y z t aX bX cX aY bY cY aZ bZ cZ tx1 tx2 tx3 ty1 ty2 ty3 tz1 tz2 tz3 items k (base ++ (pre ++ objs)) hx8.1 hx8.2.1 hx8.2.2 hy8.1 hy8.2.1 hy8.2.2 hz8.1 hz8.2.1 hz8.2.2
    (List.mem_append_left _ mx) (List.mem_append_left _ my) (List.mem_append_left _ mz) hm hx hy hz (by rw [hI.len]; exact Nat.le_trans hIn.2 hl) (fun p hp => ?_) s Q E B X T F N1 (fun hc h' tk' F' N' => ?_) (fun hc D h' tk' F' N' hD => ?_)
  · rcases List.mem_append.mp hp with hp | hp
    · exact hnb p hp
    rcases List.mem_append.mp hp with hp | hp
    · exact hnp p hp
    · exact hI.ne p hp
  · refine c h' tk' items k objs F' (fun p hp => N' p ?_) ⟨by unfold addIf; rw [hc, if_neg (by decide)]; exact hI, hlen _⟩
    simp only [List.mem_append, List.mem_cons] at hp ⊢
    rcases hp with h | h | h | h
    · exact .inr (.inr (.inl h))
    · exact .inl h
    · exact .inr (.inl h)
    · exact .inr (.inr (.inr h))
  · have e : items.toArray.push (Value.ref D) = (items ++ [Value.ref D]).toArray := by simp
    rw [e] at N'
    refine c h' tk' (items ++ [Value.ref D]) (k + 1) (objs ++ [(D, xyzO (x, y, z))]) F' (fun p hp => N' p ?_) ⟨by unfold addIf; rw [hc, if_pos rfl]; exact hI.snoc hD, hlen _⟩
    simp only [List.mem_append, List.mem_cons, List.not_mem_nil, or_false] at hp ⊢
    rcases hp with h | h | h | h | h
    · exact .inr (.inr (.inr (.inl h)))
    · exact .inr (.inl h)
    · exact .inr (.inr (.inl h))
    · exact .inr (.inr (.inr (.inr h)))
    · exact .inl h

/-- told_cut, its premises in the order in which they are found -/
theorem toldc {pre base : List (Addr × Obj)} (w : World) (mean mg mb) {h₀ : Heap} {L aL : Addr} {cd : Value} {m : Str → Option Value} {x y z t : Addr} {aX bX cX aY bY cY aZ bZ cZ : Int} {tx1 tx2 tx3 ty1 ty2 ty3 tz1 tz2 tz3 : Tok} {items : List Value} {k : Nat} {objs : List (Addr × Obj)} {ts : List (Addr × Addr × Addr)} {n : Nat}
    {s : Shared} {Q : Flow → Shared → Prop} {E : Value → Shared → Prop} (F : Fr h₀ L s.heap m) (N : News h₀ L s.heap (pre ++ (t, ({ cls := .type "list", data := .seq items.toArray k } : Obj)) :: (base ++ objs)))
    (hm : m "told" = some (.ref t)) (hx : m "x" = some (.ref x)) (hy : m "y" = some (.ref y)) (hz : m "z" = some (.ref z))
    (mx : (x, tup3 aX bX cX tx1 tx2 tx3) ∈ base) (my : (y, tup3 aY bY cY ty1 ty2 ty3) ∈ base) (mz : (z, tup3 aZ bZ cZ tz1 tz2 tz3) ∈ base)
    (hx8 : In8 aX bX cX) (hy8 : In8 aY bY cY) (hz8 : In8 aZ bZ cZ) (hIn : TIn n t ts items objs) (hl : n ≤ 27) (hnp : ∀ p ∈ pre, p.1 ≠ t) (hnb : ∀ p ∈ base, p.1 ≠ t)
    (B : Below callerA h₀ [] h₀) (X : (Mine.hd.heap_1 w.params).In h₀) (T : Top VW LO mean mg mb h₀)
    (c : ∀ h' tk' items' k' objs', Fr h₀ L h' m → News h₀ L h' (pre ++ (t, ({ cls := .type "list", data := .seq items'.toArray k' } : Obj)) :: (base ++ objs')) → TIn (n + 1) t (addIf (canB aX bX cX aY bY cY aZ bZ cZ) ts (x, y, z)) items' objs' → Q .next { s with heap := h', toks := tk' }) :
    wpAny (model PySem.Challenge.rw_pg0251_01.row.prog w) (lawA w L aL cd) (exec (lawIf w) (lawE w L aL cd)) Q E s :=
  told_cut w mean mg mb h₀ L aL cd m x y z t aX bX cX aY bY cY aZ bZ cZ tx1 tx2 tx3 ty1 ty2 ty3 tz1 tz2 tz3 items k pre base objs ts hx8 hy8 hz8 mx my mz hm hx hy hz hIn hl hnp hnb s Q E B X T F N c
/-- told's objects lie off an iterator: they are of another kind -/
theorem offTI {h₀ h : Heap} {L iz t : Addr} {oz : Obj} {n : Nat} {ts : List (Addr × Addr × Addr)} {items : List Value} {objs all : List (Addr × Obj)} (hT : TIn n t ts items objs) (N : News h₀ L h all) (hm : (iz, oz) ∈ all) (hc : oz.cls = .type "list_iterator") (hs : ∀ p ∈ objs, p ∈ all) : ∀ p ∈ objs, p.1 ≠ iz := fun p hp e => by
  have h1 := (N _ (hs p hp)).1
  have h2 := (N _ hm).1
  rw [show p.1 = iz from e] at h1
  have h3 : p.2 = oz := Option.some.inj (h1.symm.trans h2)
  obtain ⟨⟨Ds, _, rfl, _, _⟩, _⟩ := hT
  have h4 : ∀ (Ds : List Addr) (qs : List (Addr × Addr × Addr)) (p : Addr × Obj), p ∈ tobj Ds qs → p.2.cls = .type "list" := by
    intro Ds
    induction Ds with
    | nil => intro qs p h; simp [tobj] at h
    | cons D Ds ih =>
      intro qs p h
      cases qs with
      | nil => simp [tobj] at h
      | cons q qs =>
        rcases List.mem_cons.mp h with rfl | h
        · rfl
        · exact ih qs p h
  have h5 := h4 _ _ p hp
  rw [h3, hc] at h5
  exact absurd h5 (by decide)
theorem unrEnd1 {h₀ h' : Heap} {L iz : Addr} {oz : Obj} {rest' : List (Addr × Obj)} {rest : (Str → Option Value) → List (Addr × Obj) → Prop} {s₁ : Shared} {tk : Nat} {m' : Str → Option Value} (F : Fr h₀ L h' m') (N : News h₀ L h' ((iz, oz) :: rest')) (off : ∀ p ∈ rest', p.1 ≠ iz) (r : rest m' rest') :
    UnrEndW h₀ L s₁ [(iz, oz)] rest { s₁ with heap := h', toks := tk } := ⟨h', tk, m', rest', rfl, F, N, fun p hp q hq => by rw [List.mem_singleton.mp hq]; exact off p hp, r⟩
theorem offApp {iz : Addr} {base objs objs' : List (Addr × Obj)} (h : AllLt iz (base ++ objs)) (h2 : ∀ p ∈ objs', p.1 ≠ iz) : ∀ p ∈ base ++ objs', p.1 ≠ iz := fun p hp => by
  rcases List.mem_append.mp hp with hp | hp
  · exact neOfLt h p (List.mem_append_left _ hp)
  · exact h2 p hp
theorem swapN {h₀ h : Heap} {L : Addr} {p q : Addr × Obj} {l : List (Addr × Obj)} (N : News h₀ L h (p :: q :: l)) : News h₀ L h (q :: p :: l) := fun r hr => N r (by
  simp only [List.mem_cons] at hr ⊢
  rcases hr with h | h | h
  · exact .inr (.inl h)
  · exact .inl h
  · exact .inr (.inr h))
end
section
local macro_rules | `(tactic| walk_at "SubL cons cons") => `(tactic| k_dflt k_subL)
local macro_rules | `(tactic| walk_at "SubL") => `(tactic| k_dflt k_subL)
local macro_rules | `(tactic| k_all) => `(tactic| first | assumption | exact neOfLt (by with_reducible assumption) | exact offTI (by assumption) (by k_asm) (by k_mem) (by assumption) (by intro p hp; repeat (first | exact hp | refine List.Mem.tail _ ?_)))
local macro_rules | `(tactic| k_all) => `(tactic| first | assumption | exact neOfLt (by with_reducible assumption) | exact List.forall_mem_nil _ | exact offApp (by with_reducible assumption) (offTI (by assumption) (by k_asm) (by k_mem) (by assumption) (by intro p hp; exact List.Mem.tail _ (List.Mem.tail _ (List.mem_append_right _ hp)))) | (refine' List.forall_mem_cons.mpr ⟨?a, ?b⟩; (case a => k_ne); (case b => k_all)))
local macro_rules | `(tactic| walk_at "mine mem") => `(tactic| first | exact List.Mem.head _ | assumption | exact List.mem_append_left _ (by assumption) | (refine' List.Mem.tail _ ?_; walk_at "mine mem"))

set_option maxRecDepth 100000 in
set_option maxHeartbeats 8000000 in
theorem zloop (w : World) (mean mg mb) (h₀ : Heap) (L aL : Addr) (cd : Value) (m : Str → Option Value) (t rd q1 q2 q3 x y z1 z2 z3 : Addr) (k k0 k3 : Nat) (aX bX cX aY bY cY a1 b1 c1 a2 b2 c2 a3 b3 c3 : Int) (tx1 tx2 tx3 ty1 ty2 ty3 t1 t2 t3 t4 t5 t6 t7 t8 t9 : Tok) (items : List Value) (objs base : List (Addr × Obj)) (ts : List (Addr × Addr × Addr)) (n : Nat)
   (hX : In8 aX bX cX) (hY : In8 aY bY cY) (h1 : In8 a1 b1 c1) (h2 : In8 a2 b2 c2) (h3 : In8 a3 b3 c3) (mrd : (rd, ({ cls := .type "list", data := .seq #[.ref q1, .ref q2, .ref q3] k0 } : Obj)) ∈ base) (mq : (q3, ({ cls := .type "list", data := .seq #[.ref z1, .ref z2, .ref z3] k3 } : Obj)) ∈ base) (mx : (x, tup3 aX bX cX tx1 tx2 tx3) ∈ base) (my : (y, tup3 aY bY cY ty1 ty2 ty3) ∈ base) (mz1 : (z1, tup3 a1 b1 c1 t1 t2 t3) ∈ base) (mz2 : (z2, tup3 a2 b2 c2 t4 t5 t6) ∈ base) (mz3 : (z3, tup3 a3 b3 c3 t7 t8 t9) ∈ base) (hm : m "told" = some (.ref t)) (hx : m "x" = some (.ref x)) (hy : m "y" = some (.ref y)) (hr : m "read" = some (.ref rd)) (hI : TIn n t ts items objs) (hl : n ≤ 24) (hnb : ∀ p ∈ base, p.1 ≠ t) (s : Shared) (Q : Flow → Shared → Prop) (E : Value → Shared → Prop)
   (B : Below callerA h₀ [] h₀) (X : (Mine.hd.heap_1 w.params).In h₀) (T : Top VW LO mean mg mb h₀) (F : Fr h₀ L s.heap m) (N : News h₀ L s.heap ((t, ({ cls := .type "list", data := .seq items.toArray k } : Obj)) :: (base ++ objs)))
   (hpoz : PassesOwn (model PySem.Challenge.rw_pg0251_01.row.prog w) (lawA w L aL cd) (lawE w L aL cd) E) (hret : ∀ m' h' tk' (items' : List Value) (k' : Nat) (objs' : List (Addr × Obj)), Fr h₀ L h' m' → Agr ["z"] m m' → News h₀ L h' ((t, ({ cls := .type "list", data := .seq items'.toArray k' } : Obj)) :: (base ++ objs')) → TIn (n + 1 + 1 + 1) t (addIf (canB aX bX cX aY bY cY a3 b3 c3) (addIf (canB aX bX cX aY bY cY a2 b2 c2) (addIf (canB aX bX cX aY bY cY a1 b1 c1) ts (x, y, z1)) (x, y, z2)) (x, y, z3)) items' objs' → Q .next { s with heap := h', toks := tk' }) :
    wpAny (model PySem.Challenge.rw_pg0251_01.row.prog w) (lawA w L aL cd) (exec (forBody (forBody ((fnBody (lawO w)).getD 7 (.Pass default)))) (lawE w L aL cd)) Q E s := by
  w_on; revert X; k_fill; intro X
  k_dflt (show wpAny _ (callerA.deeper (envOfC _ (Scope.mk _ _ _ _ _) _ _ _)) (exec (.For _ _ _ _ _) (envOfC _ (Scope.mk _ _ _ _ _) _ _ _)) _ _ _)
  (try dsimp only); (try k_fold)
  repeat' (first | (k_here; (with_reducible show wpAny _ _ (exec (Stmt.If _ _ _ _) _) _ _ _); k_dflt (refine' toldc (pre := [_]) (base := base) w mean mg mb (by k_asm) (by k_asm) (by assumption) (by first | exact rfl | assumption) (by first | exact rfl | assumption) (by first | exact rfl | assumption) (by assumption) (by assumption) (by assumption) (by assumption) (by assumption) (by assumption) (by assumption) (by omega) (by k_all) (by assumption) (by k_asm) (by k_asm) (by k_asm) ?_); intro h' tk' items' k' objs' F' N' hI'; (try simp only [List.cons_append, List.nil_append] at N'); (try k_sweep)) |  ((with_reducible show wpAny _ _ (exec (Stmt.For (Expr.Name _ _) (Expr.Subscript _ _ _) _ _ _) _) _ _ _); (k_here; (rename Fr _ _ _ _ => lF'); (with_unfolding_all refine' For_turns lF' ?_; k_whole))) | ((with_reducible show wpAny _ _ (exec (Stmt.For _ _ _ _ _) _) _ _ _); (k_here; (rename Fr _ _ _ _ => lF'); (with_unfolding_all refine' For_turns lF' ?_; k_whole))) | ((with_reducible show UnrEndW _ _ _ _ _ _); k_dflt (refine' unrEnd1 (by k_asm) (by k_asm) (by k_all) ?_)) | ((k_here; (with_reducible show wpAny _ _ (pyIter (Value.ref _)) (fun it s₂ => TurnsAt _ _ _ _ _ _ _ _ _ it s₂) _ _); (rename Fr _ _ _ _ => lF'); (with_unfolding_all refine iter_listTurns (vs := [_, _, _]) (by rfl) lF' (by k_asm) (by k_mem) (by rfl) (by rfl) ?_); clear lF'; intro i' l1; (try k_lt l1))) | ((with_reducible show wpAny _ _ (exec (Stmt.For (Expr.Name _ _) (Expr.Name _ _) _ _ _) _) _ _ _); (k_here; (rename Fr _ _ _ _ => lF'); (with_unfolding_all refine' For_turns lF' ?_; k_whole))) | ((with_reducible show wpAny _ _ (call (Value.builtin "list.insert") _ _) _ _ _); ((with_reducible show wpAny _ _ (call _ (_ ++ _)) _ _ _); dsimp only [List.cons_append, List.nil_append])) | ((with_reducible show wpAny _ _ (subscriptTail _ _ (Value.ref _) _) _ _ _); (k_here; (with_reducible show wpAny _ _ (subscriptTail _ _ (Value.ref _) (Value.int _ _)) _ _ _); k_dflt (refine' sub_any ?zqk1 ?zqk2 ?zqkh ?zqk3 ?zqk4 ?zqk5 ?_; (case zqk1 => k_asm); (case zqk2 => k_mem); (case zqkh => first | exact .inr ⟨_, rfl⟩ | exact .inl ⟨_, rfl⟩); (case zqk3 => decide); (case zqk4 => decide); (case zqk5 => rfl)))) | ((with_reducible show wpAny _ _ (eval (Expr.Name _ _) _) _ _ _); (k_here; k_dflt (refine' nameX_L ?zqk1 ?zqk2 ?_; (case zqk1 => k_asm); (case zqk2 => assumption)))) | (k_unfold; (try dsimp only)) | (k_end; wrow_close) | (walk1 <;> (try dsimp only) <;> (try walk_at "mine split")) | (dsimp only; walk1) | (leave1; walk_say "STEP leave1"; try dsimp only) | fail "no step")
  all_goals first
  | exact hret _ _ _ _ _ _ (by k_asm) (by walk_at "mine agr") (by first | exact sufN (by k_asm) [] rfl | exact sufN (by k_asm) [_] rfl | exact sufN (by k_asm) [_, _] rfl | exact sufN (by k_asm) [_, _, _] rfl | exact sufN (by k_asm) [_, _, _, _] rfl | exact sufN (by k_asm) [_, _, _, _, _] rfl | exact sufN (by k_asm) [_, _, _, _, _, _] rfl | exact sufN (by k_asm) [_, _, _, _, _, _, _] rfl | exact sufN (by k_asm) [_, _, _, _, _, _, _, _] rfl | exact sufN (by k_asm) [_, _, _, _, _, _, _, _, _] rfl | exact sufN (by k_asm) [_, _, _, _, _, _, _, _, _, _] rfl | exact sufN (by k_asm) [_, _, _, _, _, _, _, _, _, _, _] rfl | exact sufN (by k_asm) [_, _, _, _, _, _, _, _, _, _, _, _] rfl | exact sufN (by k_asm) [_, _, _, _, _, _, _, _, _, _, _, _, _] rfl) (by assumption)
end
section
theorem zcut {base : List (Addr × Obj)} (w : World) (mean mg mb) {h₀ : Heap} {L aL : Addr} {cd : Value} {m : Str → Option Value} {iy : Addr} {oy : Obj} {t rd q1 q2 q3 x y z1 z2 z3 : Addr} {k k0 k3 : Nat} {aX bX cX aY bY cY a1 b1 c1 a2 b2 c2 a3 b3 c3 : Int} {tx1 tx2 tx3 ty1 ty2 ty3 t1 t2 t3 t4 t5 t6 t7 t8 t9 : Tok} {items : List Value} {objs : List (Addr × Obj)} {ts : List (Addr × Addr × Addr)} {n : Nat}
    {s : Shared} {Q : Flow → Shared → Prop} {E : Value → Shared → Prop} (F : Fr h₀ L s.heap m) (N : News h₀ L s.heap ((iy, oy) :: (t, ({ cls := .type "list", data := .seq items.toArray k } : Obj)) :: (base ++ objs)))
    (hm : m "told" = some (.ref t)) (hx : m "x" = some (.ref x)) (hy : m "y" = some (.ref y)) (hr : m "read" = some (.ref rd))
    (mrd : (rd, ({ cls := .type "list", data := .seq #[.ref q1, .ref q2, .ref q3] k0 } : Obj)) ∈ base) (mq : (q3, ({ cls := .type "list", data := .seq #[.ref z1, .ref z2, .ref z3] k3 } : Obj)) ∈ base) (mx : (x, tup3 aX bX cX tx1 tx2 tx3) ∈ base) (my : (y, tup3 aY bY cY ty1 ty2 ty3) ∈ base) (mz1 : (z1, tup3 a1 b1 c1 t1 t2 t3) ∈ base) (mz2 : (z2, tup3 a2 b2 c2 t4 t5 t6) ∈ base) (mz3 : (z3, tup3 a3 b3 c3 t7 t8 t9) ∈ base)
    (hX : In8 aX bX cX) (hY : In8 aY bY cY) (h1 : In8 a1 b1 c1) (h2 : In8 a2 b2 c2) (h3 : In8 a3 b3 c3) (hI : TIn n t ts items objs) (hl : n ≤ 24) (hnb : ∀ p ∈ base, p.1 ≠ t) (hiy : iy ≠ t)
    (B : Below callerA h₀ [] h₀) (X : (Mine.hd.heap_1 w.params).In h₀) (T : Top VW LO mean mg mb h₀) (hpo : PassesOwn (model PySem.Challenge.rw_pg0251_01.row.prog w) (lawA w L aL cd) (lawE w L aL cd) E)
    (c : ∀ m' h' tk' (items' : List Value) (k' : Nat) (objs' : List (Addr × Obj)), Fr h₀ L h' m' → Agr ["z"] m m' → News h₀ L h' ((iy, oy) :: (t, ({ cls := .type "list", data := .seq items'.toArray k' } : Obj)) :: (base ++ objs')) →
      TIn (n + 1 + 1 + 1) t (addIf (canB aX bX cX aY bY cY a3 b3 c3) (addIf (canB aX bX cX aY bY cY a2 b2 c2) (addIf (canB aX bX cX aY bY cY a1 b1 c1) ts (x, y, z1)) (x, y, z2)) (x, y, z3)) items' objs' → Q .next { s with heap := h', toks := tk' }) :
    wpAny (model PySem.Challenge.rw_pg0251_01.row.prog w) (lawA w L aL cd) (exec (forBody (forBody ((fnBody (lawO w)).getD 7 (.Pass default)))) (lawE w L aL cd)) Q E s :=
  zloop w mean mg mb h₀ L aL cd m t rd q1 q2 q3 x y z1 z2 z3 k k0 k3 aX bX cX aY bY cY a1 b1 c1 a2 b2 c2 a3 b3 c3 tx1 tx2 tx3 ty1 ty2 ty3 t1 t2 t3 t4 t5 t6 t7 t8 t9 items objs ((iy, oy) :: base) ts n hX hY h1 h2 h3 (.tail _ mrd) (.tail _ mq) (.tail _ mx) (.tail _ my) (.tail _ mz1) (.tail _ mz2) (.tail _ mz3) hm hx hy hr hI hl
    (fun p hp => by rcases List.mem_cons.mp hp with rfl | hp; exact hiy; exact hnb p hp) s Q E B X T F (swapN N) hpo fun m' h' tk' items' k' objs' F' ag N' hI' => c m' h' tk' items' k' objs' F' ag (swapN N') hI'
theorem Agr.step {xs ys : List Str} {m m1 m2 : Str → Option Value} (h : Agr ys m1 m2) (hs : ∀ y ∈ ys, y ∈ xs) (h0 : Agr xs m m1) : Agr xs m m2 := fun x hx => (h x fun q => hx (hs x q)).trans (h0 x hx)
end
section
noncomputable def forIter (s : Stmt) : Expr := match s with
  | .For _ it _ _ _ => it
  | _ => .Constant .none 0 default
theorem assignFr {prog : Program} {w : World} {A : Around} {E : Value → Shared → Prop} {s : Shared} {env : Env} {h₀ : Heap} {m : Str → Option Value} {news : List (Addr × Obj)} {x : Str} {px : Pos} {v : Value} {Q : Unit → Shared → Prop}
    (hl : env.kindOf x = some .local) (hp : (env.scope.kind == .class || (env.scope.kind == .module && env.locals != env.globals)) = false) (F : Fr h₀ env.locals s.heap m) (N : News h₀ env.locals s.heap news)
    (h : ∀ h' tk', Fr h₀ env.locals h' (fun u => if u = x then some v else m u) → News h₀ env.locals h' news → Q () { s with heap := h', toks := tk' }) : wpAny (model prog w) A (assign (.Name x px) env v) Q E s :=
  wpAny_assign_Name (wpAny_storeName_local hl F.ns (fun h' hn hs => h h' _ (F.set hn hs) fun p hp => ⟨hs.extBut _ _ (N p hp).2.1 (N p hp).1, (N p hp).2⟩) hp)
theorem exec1 {prog : Program} {w : World} {A : Around} {E : Value → Shared → Prop} {s : Shared} {env : Env} {st : Stmt} {Q : Flow → Shared → Prop} (h : wpAny (model prog w) A (exec st env) Q E s) (hQ : ∀ f s', Q f s' → (f = .next ∨ f = .cont)) : wpAny (model prog w) A (execs [st] env) Q E s :=
  wpAny_execs_cons (wpAny_mono h (fun f s' q => by
    rcases hQ f s' q with rfl | rfl
    · exact wpAny_execs_nil q
    · exact q) fun _ _ e => e)
-- GEN

set_option maxRecDepth 100000 in
set_option maxHeartbeats 8000000 in
theorem read0 (w : World) (mean mg mb) (h₀ : Heap) (L aL : Addr) (cd : Value) (m : Str → Option Value) (rd q1 q2 q3 : Addr) (k0 : Nat) (led : List (Addr × Obj)) (hm : m "read" = some (.ref rd)) (mrd : (rd, ({ cls := .type "list", data := .seq #[.ref q1, .ref q2, .ref q3] k0 } : Obj)) ∈ led)
   (s : Shared) (Q : Value → Shared → Prop) (E : Value → Shared → Prop) (B : Below callerA h₀ [] h₀) (X : (Mine.hd.heap_1 w.params).In h₀) (T : Top VW LO mean mg mb h₀) (F : Fr h₀ L s.heap m) (N : News h₀ L s.heap led)
   (hret : ∀ h' tk', Fr h₀ L h' m → News h₀ L h' led → Q (.ref q1) { s with heap := h', toks := tk' }) :
    wpAny (model PySem.Challenge.rw_pg0251_01.row.prog w) (lawA w L aL cd) (eval (forIter ((fnBody (lawO w)).getD 7 (.Pass default))) (lawE w L aL cd)) Q E s := by
  w_on; revert X; k_fill; intro X
  k_dflt (show wpAny _ (callerA.deeper (envOfC _ (Scope.mk _ _ _ _ _) _ _ _)) (eval (.Subscript _ _ _) (envOfC _ (Scope.mk _ _ _ _ _) _ _ _)) _ _ _)
  (try dsimp only); (try k_fold)
  repeat' (first | ((with_reducible show wpAny _ _ (subscriptTail _ _ (Value.ref _) _) _ _ _); (k_here; (with_reducible show wpAny _ _ (subscriptTail _ _ (Value.ref _) (Value.int _ _)) _ _ _); k_dflt (refine' sub_any ?zqk1 ?zqk2 ?zqkh ?zqk3 ?zqk4 ?zqk5 ?_; (case zqk1 => k_asm); (case zqk2 => k_mem); (case zqkh => first | exact .inr ⟨_, rfl⟩ | exact .inl ⟨_, rfl⟩); (case zqk3 => decide); (case zqk4 => decide); (case zqk5 => rfl)))) | ((with_reducible show wpAny _ _ (eval (Expr.Name _ _) _) _ _ _); (k_here; k_dflt (refine' nameX_L ?zqk1 ?zqk2 ?_; (case zqk1 => k_asm); (case zqk2 => assumption)))) | (k_unfold; (try dsimp only)) | (k_end; wrow_close) | (walk1 <;> (try dsimp only) <;> (try walk_at "mine split")) | (dsimp only; walk1) | (leave1; walk_say "STEP leave1"; try dsimp only) | fail "no step")
  all_goals exact hret _ _ (by k_asm) (by k_asm)

set_option maxRecDepth 100000 in
set_option maxHeartbeats 8000000 in
theorem read1 (w : World) (mean mg mb) (h₀ : Heap) (L aL : Addr) (cd : Value) (m : Str → Option Value) (rd q1 q2 q3 : Addr) (k0 : Nat) (led : List (Addr × Obj)) (hm : m "read" = some (.ref rd)) (mrd : (rd, ({ cls := .type "list", data := .seq #[.ref q1, .ref q2, .ref q3] k0 } : Obj)) ∈ led)
   (s : Shared) (Q : Value → Shared → Prop) (E : Value → Shared → Prop) (B : Below callerA h₀ [] h₀) (X : (Mine.hd.heap_1 w.params).In h₀) (T : Top VW LO mean mg mb h₀) (F : Fr h₀ L s.heap m) (N : News h₀ L s.heap led)
   (hret : ∀ h' tk', Fr h₀ L h' m → News h₀ L h' led → Q (.ref q2) { s with heap := h', toks := tk' }) :
    wpAny (model PySem.Challenge.rw_pg0251_01.row.prog w) (lawA w L aL cd) (eval (forIter (forBody ((fnBody (lawO w)).getD 7 (.Pass default)))) (lawE w L aL cd)) Q E s := by
  w_on; revert X; k_fill; intro X
  k_dflt (show wpAny _ (callerA.deeper (envOfC _ (Scope.mk _ _ _ _ _) _ _ _)) (eval (.Subscript _ _ _) (envOfC _ (Scope.mk _ _ _ _ _) _ _ _)) _ _ _)
  (try dsimp only); (try k_fold)
  repeat' (first | ((with_reducible show wpAny _ _ (subscriptTail _ _ (Value.ref _) _) _ _ _); (k_here; (with_reducible show wpAny _ _ (subscriptTail _ _ (Value.ref _) (Value.int _ _)) _ _ _); k_dflt (refine' sub_any ?zqk1 ?zqk2 ?zqkh ?zqk3 ?zqk4 ?zqk5 ?_; (case zqk1 => k_asm); (case zqk2 => k_mem); (case zqkh => first | exact .inr ⟨_, rfl⟩ | exact .inl ⟨_, rfl⟩); (case zqk3 => decide); (case zqk4 => decide); (case zqk5 => rfl)))) | ((with_reducible show wpAny _ _ (eval (Expr.Name _ _) _) _ _ _); (k_here; k_dflt (refine' nameX_L ?zqk1 ?zqk2 ?_; (case zqk1 => k_asm); (case zqk2 => assumption)))) | (k_unfold; (try dsimp only)) | (k_end; wrow_close) | (walk1 <;> (try dsimp only) <;> (try walk_at "mine split")) | (dsimp only; walk1) | (leave1; walk_say "STEP leave1"; try dsimp only) | fail "no step")
  all_goals exact hret _ _ (by k_asm) (by k_asm)

theorem st7x (w : World) : ∃ px po, ((fnBody (lawO w)).getD 7 (.Pass default)) = .For (.Name (Str.ofString "x") px) (forIter ((fnBody (lawO w)).getD 7 (.Pass default))) [forBody ((fnBody (lawO w)).getD 7 (.Pass default))] [] po := ⟨_, _, rfl⟩
theorem st7y (w : World) : ∃ px po, forBody ((fnBody (lawO w)).getD 7 (.Pass default)) = .For (.Name (Str.ofString "y") px) (forIter (forBody ((fnBody (lawO w)).getD 7 (.Pass default)))) [forBody (forBody ((fnBody (lawO w)).getD 7 (.Pass default)))] [] po := ⟨_, _, rfl⟩
/-- a paint at its address -/
noncomputable abbrev PA := Addr × Int × Int × Int
noncomputable def PIn (base : List (Addr × Obj)) (p : PA) : Prop := In8 p.2.1 p.2.2.1 p.2.2.2 ∧ ∃ t u v, (p.1, tup3 p.2.1 p.2.2.1 p.2.2.2 t u v) ∈ base
/-- a pot: a list of three paints -/
noncomputable def PotIn (base : List (Addr × Obj)) (q : Addr) (P : List PA) : Prop := ∃ k p1 p2 p3, P = [p1, p2, p3] ∧ (q, ({ cls := .type "list", data := .seq #[.ref p1.1, .ref p2.1, .ref p3.1] k } : Obj)) ∈ base ∧ PIn base p1 ∧ PIn base p2 ∧ PIn base p3
noncomputable def cB (x y z : PA) : Bool := canB x.2.1 x.2.2.1 x.2.2.2 y.2.1 y.2.2.1 y.2.2.2 z.2.1 z.2.2.1 z.2.2.2
noncomputable def stepZ (x y : PA) (ts : List (Addr × Addr × Addr)) (z : PA) : List (Addr × Addr × Addr) := addIf (cB x y z) ts (x.1, y.1, z.1)
noncomputable def stepY (Z : List PA) (x : PA) (ts : List (Addr × Addr × Addr)) (y : PA) : List (Addr × Addr × Addr) := Z.foldl (stepZ x y) ts
noncomputable def stepX (Y Z : List PA) (ts : List (Addr × Addr × Addr)) (x : PA) : List (Addr × Addr × Addr) := Y.foldl (stepY Z x) ts
theorem PIn.mono {l l' : List (Addr × Obj)} {p : PA} (h : PIn l p) (hs : ∀ q ∈ l, q ∈ l') : PIn l' p := by
  obtain ⟨a, t, u, v, e⟩ := h; exact ⟨a, t, u, v, hs _ e⟩
theorem PotIn.mono {l l' : List (Addr × Obj)} {q : Addr} {P : List PA} (h : PotIn l q P) (hs : ∀ q ∈ l, q ∈ l') : PotIn l' q P := by
  obtain ⟨k, p1, p2, p3, e, m, a, b, c⟩ := h; exact ⟨k, p1, p2, p3, e, hs _ m, a.mono hs, b.mono hs, c.mono hs⟩
noncomputable abbrev tObj (t : Addr) (items : List Value) (k : Nat) : Addr × Obj := (t, ({ cls := .type "list", data := .seq items.toArray k } : Obj))
noncomputable abbrev rdObj (rd q1 q2 q3 : Addr) (k : Nat) : Addr × Obj := (rd, ({ cls := .type "list", data := .seq #[.ref q1, .ref q2, .ref q3] k } : Obj))
theorem zcut2 {base : List (Addr × Obj)} (w : World) (mean mg mb) {h₀ : Heap} {L aL : Addr} {cd : Value} {m : Str → Option Value} {iy : Addr} {oy : Obj} {t rd q1 q2 q3 : Addr} {k k0 : Nat} {x y : PA} {Z : List PA} {items : List Value} {objs : List (Addr × Obj)} {ts : List (Addr × Addr × Addr)} {n : Nat}
    {s : Shared} {Q : Flow → Shared → Prop} {E : Value → Shared → Prop} (F : Fr h₀ L s.heap m) (N : News h₀ L s.heap ((iy, oy) :: tObj t items k :: (base ++ objs)))
    (hm : m "told" = some (.ref t)) (hx : m "x" = some (.ref x.1)) (hy : m "y" = some (.ref y.1)) (hr : m "read" = some (.ref rd))
    (mrd : rdObj rd q1 q2 q3 k0 ∈ base) (px : PIn base x) (py : PIn base y) (pz : PotIn base q3 Z) (hI : TIn n t ts items objs) (hl : n ≤ 24) (hnb : ∀ p ∈ base, p.1 ≠ t) (hiy : iy ≠ t)
    (B : Below callerA h₀ [] h₀) (X : (Mine.hd.heap_1 w.params).In h₀) (T : Top VW LO mean mg mb h₀) (hpo : PassesOwn (model PySem.Challenge.rw_pg0251_01.row.prog w) (lawA w L aL cd) (lawE w L aL cd) E)
    (c : ∀ m' h' tk' (items' : List Value) (k' : Nat) (objs' : List (Addr × Obj)), Fr h₀ L h' m' → Agr ["z"] m m' → News h₀ L h' ((iy, oy) :: tObj t items' k' :: (base ++ objs')) →
      TIn (n + 3) t (stepY Z x ts y) items' objs' → Q .next { s with heap := h', toks := tk' }) :
    wpAny (model PySem.Challenge.rw_pg0251_01.row.prog w) (lawA w L aL cd) (exec (forBody (forBody ((fnBody (lawO w)).getD 7 (.Pass default)))) (lawE w L aL cd)) Q E s := by
  obtain ⟨hX, tx1, tx2, tx3, mx⟩ := px
  obtain ⟨hY, ty1, ty2, ty3, my⟩ := py
  obtain ⟨k3, p1, p2, p3, rfl, mq, ⟨h1, t1, t2, t3, m1⟩, ⟨h2, t4, t5, t6, m2⟩, ⟨h3, t7, t8, t9, m3⟩⟩ := pz
  exact zcut w mean mg mb F N hm hx hy hr mrd mq mx my m1 m2 m3 hX hY h1 h2 h3 hI hl hnb hiy B X T hpo c
theorem TIn.offI {h₀ h : Heap} {L I t : Addr} {oI : Obj} {n : Nat} {ts : List (Addr × Addr × Addr)} {items : List Value} {k k₀ : Nat} {items₀ : List Value} {base objs objs₀ : List (Addr × Obj)} (hT : TIn n t ts items objs) (hc : oI.cls = .type "list_iterator")
    (N : News h₀ L h ((I, oI) :: tObj t items k :: (base ++ objs))) (hI : ∀ p ∈ tObj t items₀ k₀ :: (base ++ objs₀), p.1 < I) : ∀ p ∈ tObj t items k :: (base ++ objs), p.1 ≠ I := fun p hp => by
  rcases List.mem_cons.mp hp with rfl | hp
  · exact Nat.ne_of_lt (hI (tObj t items₀ k₀) (.head _))
  rcases List.mem_append.mp hp with hp | hp
  · exact Nat.ne_of_lt (hI p (.tail _ (List.mem_append_left _ hp)))
  · exact offTI hT N (.head _) hc (fun q hq => .tail _ (.tail _ (List.mem_append_right _ hq))) p hp
/-- the loop over y -/
theorem yloop {base : List (Addr × Obj)} (w : World) (mean mg mb) {h₀ : Heap} {L aL : Addr} {cd : Value} {m : Str → Option Value} {t rd q1 q2 q3 : Addr} {k k0 : Nat} {x : PA} {Y Z : List PA} {items : List Value} {objs : List (Addr × Obj)} {ts : List (Addr × Addr × Addr)} {n : Nat}
    {s : Shared} {Q : Flow → Shared → Prop} {E : Value → Shared → Prop} (F : Fr h₀ L s.heap m) (N : News h₀ L s.heap (tObj t items k :: (base ++ objs)))
    (hm : m "told" = some (.ref t)) (hx : m "x" = some (.ref x.1)) (hr : m "read" = some (.ref rd))
    (mrd : rdObj rd q1 q2 q3 k0 ∈ base) (px : PIn base x) (py : PotIn base q2 Y) (pz : PotIn base q3 Z) (hI : TIn n t ts items objs) (hl : n ≤ 18) (hnb : ∀ p ∈ base, p.1 ≠ t)
    (B : Below callerA h₀ [] h₀) (X : (Mine.hd.heap_1 w.params).In h₀) (T : Top VW LO mean mg mb h₀) (hpo : PassesOwn (model PySem.Challenge.rw_pg0251_01.row.prog w) (lawA w L aL cd) (lawE w L aL cd) E)
    (c : ∀ m' h' tk' (items' : List Value) (k' : Nat) (objs' : List (Addr × Obj)), Fr h₀ L h' m' → Agr ["y", "z"] m m' → News h₀ L h' (tObj t items' k' :: (base ++ objs')) →
      TIn (n + 9) t (stepX Y Z ts x) items' objs' → Q .next { s with heap := h', toks := tk' }) :
    wpAny (model PySem.Challenge.rw_pg0251_01.row.prog w) (lawA w L aL cd) (exec (forBody ((fnBody (lawO w)).getD 7 (.Pass default))) (lawE w L aL cd)) Q E s := by
  obtain ⟨pp, po, e⟩ := st7y w
  obtain ⟨k2, y1, y2, y3, rfl, mq, p1, p2, p3⟩ := py
  rw [e]
  refine for_inv (env := lawE w L aL cd) F (read1 w mean mg mb h₀ L aL cd m rd q1 q2 q3 k0 _ hr (.tail _ (List.mem_append_left _ mrd)) s _ E B X T F N fun h' tk' F' N' => ?_) hpo
  refine ⟨q2, [.ref y1.1, .ref y2.1, .ref y3.1], k2, m, _, fun i m' news => ∃ items' k' objs', news = tObj t items' k' :: (base ++ objs') ∧ TIn (n + 3 * i) t (([y1, y2, y3].take i).foldl (stepY Z x) ts) items' objs' ∧ Agr ["y", "z"] m m', rfl, rfl, F', N', ⟨items, k, objs, rfl, hI, Agr.refl⟩, ?_, ?_, ?_⟩
  · rintro i m' news' ⟨items', k', objs', rfl, _, _⟩
    exact .tail _ (List.mem_append_left _ mq)
  · rintro i v m' news' I oI h tk hv ⟨items', k', objs', rfl, hT, ag⟩ hc hI' F₁ N₁
    have key : ∀ y : PA, v = .ref y.1 → PIn base y → i ≤ 2 → stepY Z x (([y1, y2, y3].take i).foldl (stepY Z x) ts) y = ([y1, y2, y3].take (i + 1)).foldl (stepY Z x) ts →
        wpAny (model PySem.Challenge.rw_pg0251_01.row.prog w) (lawA w L aL cd) (assign (.Name (Str.ofString "y") pp) (lawE w L aL cd) v) (fun _ s₂ => wpAny (model PySem.Challenge.rw_pg0251_01.row.prog w) (lawA w L aL cd) (execs [forBody (forBody ((fnBody (lawO w)).getD 7 (.Pass default)))] (lawE w L aL cd))
          (TurnQ h₀ (lawE w L aL cd).locals { s with heap := h, toks := tk } I oI (fun m' news => ∃ items' k' objs', news = tObj t items' k' :: (base ++ objs') ∧ TIn (n + 3 * (i + 1)) t (([y1, y2, y3].take (i + 1)).foldl (stepY Z x) ts) items' objs' ∧ Agr ["y", "z"] m m')) E s₂) E { s with heap := h, toks := tk } := by
      intro y hv py hi hst
      refine assignFr (by rfl) (by rfl) F₁ N₁ fun h₂ tk₂ F₂ N₂ => ?_
      refine exec1 (zcut2 w mean mg mb F₂ N₂ ((if_neg (by decide)).trans (ag.at (by decide) hm)) ((if_neg (by decide)).trans (ag.at (by decide) hx)) ((if_pos rfl).trans (congrArg some hv)) ((if_neg (by decide)).trans (ag.at (by decide) hr)) mrd px py pz hT (by (first | lia | omega)) hnb (Ne.symm (Nat.ne_of_lt (hI' _ (.head _)))) B X T hpo fun m₃ h₃ tk₃ items₃ k₃ objs₃ F₃ ag₃ N₃ hT₃ => ?_) (fun f s' q => q.1)
      refine ⟨.inl rfl, h₃, tk₃, m₃, _, rfl, F₃, N₃, hT₃.offI hc N₃ hI', items₃, k₃, objs₃, rfl, ?_, ?_⟩
      · rw [← hst]; exact hT₃
      · exact Agr.step ag₃ (by decide) (Agr.set ag (by decide))
    have hi3 : i = 0 ∨ i = 1 ∨ i = 2 := by
      have : i < 3 := by
        rcases Nat.lt_or_ge i 3 with q | q
        · exact q
        · rw [List.getElem?_eq_none (by simpa using q)] at hv; cases hv
      (first | lia | omega)
    rcases hi3 with rfl | rfl | rfl
    · exact key y1 (Option.some.inj hv.symm) p1 (by decide) rfl
    · exact key y2 (Option.some.inj hv.symm) p2 (by decide) rfl
    · exact key y3 (Option.some.inj hv.symm) p3 (by decide) rfl
  · rintro h tk m' news' F₁ N₁ ⟨items', k', objs', rfl, hT, ag⟩
    exact c m' h tk items' k' objs' F₁ ag N₁ hT
/-- the three loops -/
theorem s7 {base : List (Addr × Obj)} (w : World) (mean mg mb) {h₀ : Heap} {L aL : Addr} {cd : Value} {m : Str → Option Value} {t rd q1 q2 q3 : Addr} {k k0 : Nat} {X₁ Y Z : List PA}
    {s : Shared} {Q : Flow → Shared → Prop} {E : Value → Shared → Prop} (F : Fr h₀ L s.heap m) (N : News h₀ L s.heap (tObj t [] k :: base))
    (hm : m "told" = some (.ref t)) (hr : m "read" = some (.ref rd))
    (mrd : rdObj rd q1 q2 q3 k0 ∈ base) (px : PotIn base q1 X₁) (py : PotIn base q2 Y) (pz : PotIn base q3 Z) (hnb : ∀ p ∈ base, p.1 ≠ t)
    (B : Below callerA h₀ [] h₀) (X : (Mine.hd.heap_1 w.params).In h₀) (T : Top VW LO mean mg mb h₀) (hpo : PassesOwn (model PySem.Challenge.rw_pg0251_01.row.prog w) (lawA w L aL cd) (lawE w L aL cd) E)
    (c : ∀ m' h' tk' (items' : List Value) (k' : Nat) (objs' : List (Addr × Obj)), Fr h₀ L h' m' → Agr ["x", "y", "z"] m m' → News h₀ L h' (tObj t items' k' :: (base ++ objs')) →
      TIn 27 t (X₁.foldl (stepX Y Z) []) items' objs' → Q .next { s with heap := h', toks := tk' }) :
    wpAny (model PySem.Challenge.rw_pg0251_01.row.prog w) (lawA w L aL cd) (exec ((fnBody (lawO w)).getD 7 (.Pass default)) (lawE w L aL cd)) Q E s := by
  obtain ⟨pp, po, e⟩ := st7x w
  obtain ⟨k1, x1, x2, x3, rfl, mq, p1, p2, p3⟩ := px
  rw [e]
  refine for_inv (env := lawE w L aL cd) F (read0 w mean mg mb h₀ L aL cd m rd q1 q2 q3 k0 _ hr (.tail _ mrd) s _ E B X T F N fun h' tk' F' N' => ?_) hpo
  have N0 : News h₀ L h' (tObj t [] k :: (base ++ [])) := by rw [List.append_nil]; exact N'
  refine ⟨q1, [.ref x1.1, .ref x2.1, .ref x3.1], k1, m, _, fun i m' news => ∃ items' k' objs', news = tObj t items' k' :: (base ++ objs') ∧ TIn (9 * i) t (([x1, x2, x3].take i).foldl (stepX Y Z) []) items' objs' ∧ Agr ["x", "y", "z"] m m', rfl, rfl, F', N0, ⟨[], k, [], rfl, ⟨TI.nil, Nat.zero_le _⟩, Agr.refl⟩, ?_, ?_, ?_⟩
  · rintro i m' news' ⟨items', k', objs', rfl, _, _⟩
    exact .tail _ (List.mem_append_left _ mq)
  · rintro i v m' news' I oI h tk hv ⟨items', k', objs', rfl, hT, ag⟩ hc hI' F₁ N₁
    have key : ∀ y : PA, v = .ref y.1 → PIn base y → i ≤ 2 → stepX Y Z (([x1, x2, x3].take i).foldl (stepX Y Z) []) y = ([x1, x2, x3].take (i + 1)).foldl (stepX Y Z) [] →
        wpAny (model PySem.Challenge.rw_pg0251_01.row.prog w) (lawA w L aL cd) (assign (.Name (Str.ofString "x") pp) (lawE w L aL cd) v) (fun _ s₂ => wpAny (model PySem.Challenge.rw_pg0251_01.row.prog w) (lawA w L aL cd) (execs [forBody ((fnBody (lawO w)).getD 7 (.Pass default))] (lawE w L aL cd))
          (TurnQ h₀ (lawE w L aL cd).locals { s with heap := h, toks := tk } I oI (fun m' news => ∃ items' k' objs', news = tObj t items' k' :: (base ++ objs') ∧ TIn (9 * (i + 1)) t (([x1, x2, x3].take (i + 1)).foldl (stepX Y Z) []) items' objs' ∧ Agr ["x", "y", "z"] m m')) E s₂) E { s with heap := h, toks := tk } := by
      intro x hv px hi hst
      refine assignFr (by rfl) (by rfl) F₁ N₁ fun h₂ tk₂ F₂ N₂ => ?_
      have tl : ∀ p ∈ base, p ∈ (I, oI) :: base := fun p hp => .tail _ hp
      refine exec1 (yloop (base := (I, oI) :: base) w mean mg mb F₂ (swapN N₂) ((if_neg (by decide)).trans (ag.at (by decide) hm)) ((if_pos rfl).trans (congrArg some hv)) ((if_neg (by decide)).trans (ag.at (by decide) hr)) (tl _ mrd) (px.mono tl) (py.mono tl) (pz.mono tl) hT (by (first | lia | omega)) (fun p hp => by
        rcases List.mem_cons.mp hp with rfl | hp
        · exact Ne.symm (Nat.ne_of_lt (hI' _ (.head _)))
        · exact hnb p hp) B X T hpo fun m₃ h₃ tk₃ items₃ k₃ objs₃ F₃ ag₃ N₃ hT₃ => ?_) (fun f s' q => q.1)
      have N₃' : News h₀ L h₃ ((I, oI) :: tObj t items₃ k₃ :: (base ++ objs₃)) := swapN N₃
      refine ⟨.inl rfl, h₃, tk₃, m₃, _, rfl, F₃, N₃', hT₃.offI hc N₃' hI', items₃, k₃, objs₃, rfl, ?_, ?_⟩
      · rw [← hst]; exact hT₃
      · exact Agr.step ag₃ (by decide) (Agr.set ag (by decide))
    have hi3 : i = 0 ∨ i = 1 ∨ i = 2 := by
      have : i < 3 := by
        rcases Nat.lt_or_ge i 3 with q | q
        · exact q
        · rw [List.getElem?_eq_none (by simpa using q)] at hv; cases hv
      (first | lia | omega)
    rcases hi3 with rfl | rfl | rfl
    · exact key x1 (Option.some.inj hv.symm) p1 (by decide) rfl
    · exact key x2 (Option.some.inj hv.symm) p2 (by decide) rfl
    · exact key x3 (Option.some.inj hv.symm) p3 (by decide) rfl
  · rintro h tk m' news' F₁ N₁ ⟨items', k', objs', rfl, hT, ag⟩
    exact c m' h tk items' k' objs' F₁ ag N₁ hT
end
end
section
noncomputable def forSts (s : Stmt) : List Stmt := match s with
  | .For _ _ b _ _ => b
  | _ => []
noncomputable def forTg (s : Stmt) : Expr := match s with
  | .For t _ _ _ _ => t
  | _ => .Constant .none 0 default
noncomputable def initO (w : World) : Option Obj := (Mine.hd.heap_1 w.params).lookup 112
noncomputable abbrev initE (w : World) (L : Addr) : Env := envOf (Str.ofString "Headers.__init__") (fnScope (initO w)) L 112 (.ref 111)
noncomputable def initFor (w : World) : Stmt := ifBody ((fnBody (initO w)).getD 3 (.Pass default))
theorem init_for (w : World) : ∃ px po, initFor w = .For (forTg (initFor w)) (.Name (Str.ofString "headers") px) (forSts (initFor w)) [] po := ⟨_, _, rfl⟩
section
local macro_rules | `(tactic| walk_at "mine mem") => `(tactic| first | exact List.Mem.head _ | assumption | (refine' List.Mem.tail _ ?_; walk_at "mine mem"))
local macro_rules | `(tactic| walk_at "mine agr") => `(tactic| first | exact Agr.refl | (refine Agr.set ?_ (by decide); walk_at "mine agr"))

set_option maxRecDepth 100000 in
set_option maxHeartbeats 8000000 in
theorem initturn (w : World) (mean mg mb) (x d l p : Addr) (n t : Str) (a b : Tok) (kh : Int) (kt : Tok) (led : List (Addr × Obj)) (dp un : Nat) (gd : Option (List Code)) (cn : Str) (cs : Scope) (L0 aZ : Addr) (ccd : Value) (cl : List (Str × Addr)) (outer : List Env) (base : Heap) (h₀ : Heap) (L : Addr) (m : Str → Option Value)
   (hn9 : NoFind codeNm n) (hv9 : NoFind codeVl t) (ms : m "self" = some (.ref x)) (mx : (x, instObj 218 d) ∈ led) (md : (d, dictOf [⟨kh, .str (Str.ofString "_headers") kt, .ref l⟩] 1) ∈ led) (mp : (p, ({ cls := .type "tuple", data := .seq #[.str n a, .str t b] 0 } : Obj)) ∈ led) (s : Shared) (Q : Flow → Shared → Prop) (E : Value → Shared → Prop)
   (B : Below (ktrTop dp un gd cn cs L0 aZ ccd cl outer) base (envX cn cs L0 aZ ccd cl :: outer) h₀) (X : (Mine.hd.heap_1 w.params).In h₀) (T : Top VW LO mean mg mb h₀) (F : Fr h₀ L s.heap m) (N : News h₀ L s.heap led)
   (hk : cs.kind = .function) (hd : dp + 2 * 3 < recursionLimit) (hu : un + 20 * 3 < cLine)
   (hret : ∀ m' h' tk', Fr h₀ L h' m' → Agr ["k", "v"] m m' → News h₀ L h' led → Q .next { s with heap := h', toks := tk' }) :
    wpAny (model PySem.Challenge.rw_pg0251_01.row.prog w) ((ktrTop dp un gd cn cs L0 aZ ccd cl outer).deeper (initE w L)) (assign (forTg (initFor w)) (initE w L) (.ref p)) (fun _ s₂ => wpAny (model PySem.Challenge.rw_pg0251_01.row.prog w) ((ktrTop dp un gd cn cs L0 aZ ccd cl outer).deeper (initE w L)) (execs (forSts (initFor w)) (initE w L)) Q E s₂) E s := by
  w_on; revert X; k_fill; intro X
  k_dflt (show wpAny _ (Around.deeper _ (envOf _ (Scope.mk _ _ _ _ _) _ _ _)) (assign (.Tuple _ _ _) (envOf _ (Scope.mk _ _ _ _ _) _ _ _) _) (fun _ s₂ => wpAny _ (Around.deeper _ (envOf _ (Scope.mk _ _ _ _ _) _ _ _)) (execs (_ :: _ :: []) (envOf _ (Scope.mk _ _ _ _ _) _ _ _)) _ _ s₂) _ _)
  (try dsimp only); (try k_fold)
  repeat' (first |  ((with_reducible show wpAny _ _ (eval (Expr.Name _ _) _) _ _ _); (k_here; k_dflt (refine' nameX_L ?zqk1 ?zqk2 ?_; (case zqk1 => k_asm); (case zqk2 => assumption)))) | ((with_reducible show wpAny _ _ (call (Value.ref _) _ _) _ _ _); (k_here; k_dflt (refine wpAny_call ?_; refine' tell_useA (conv_value _ _ _ _ _ _ _ ?zqk29 ?zqhn9) ?zqB ?zqF ?zqX ?zqN ?zqT ?zqhk ?zqhd ?zqhu ?zqhs ?_; (case zqB => k_asm); (case zqF => k_asm); (case zqX => k_asm); (case zqN => k_asm); (case zqT => k_asm); (case zqhk => first | exact rfl | assumption); (case zqhd => ktr_room); (case zqhu => ktr_units); (case zqhs => k_subL); (case zqk29 => exact 0); (case zqhn9 => assumption); k_whole); intro r9 tl9 h9 tk9 p9 k9 F9 N9 e9; obtain ⟨tl9e, r9e⟩ := p9; subst r9e; subst tl9e; (try simp only [List.cons_append, List.nil_append] at N9); (try simp only [NeAlls, NeAll, and_true, true_and, and_assoc] at e9); (repeat (have e8 := e9.1; replace e9 := e9.2)); (try k_sweep); (try dsimp only); (try k_fold))) | ((with_reducible show wpAny _ _ (call (Value.ref _) _ _) _ _ _); (k_here; k_dflt (refine wpAny_call ?_; refine' tell_useA (conv_name _ _ _ _ _ _ _ ?zqk29 ?zqhn9) ?zqB ?zqF ?zqX ?zqN ?zqT ?zqhk ?zqhd ?zqhu ?zqhs ?_; (case zqB => k_asm); (case zqF => k_asm); (case zqX => k_asm); (case zqN => k_asm); (case zqT => k_asm); (case zqhk => first | exact rfl | assumption); (case zqhd => ktr_room); (case zqhu => ktr_units); (case zqhs => k_subL); (case zqk29 => exact 0); (case zqhn9 => assumption); k_whole); intro r9 tl9 h9 tk9 p9 k9 F9 N9 e9; obtain ⟨tl9e, r9e⟩ := p9; subst r9e; subst tl9e; (try simp only [List.cons_append, List.nil_append] at N9); (try simp only [NeAlls, NeAll, and_true, true_and, and_assoc] at e9); (repeat (have e8 := e9.1; replace e9 := e9.2)); (try k_sweep); (try dsimp only); (try k_fold))) | (k_unfold; (try dsimp only)) | (k_end; wrow_close) | (walk1 <;> (try dsimp only) <;> (try walk_at "mine split")) | (dsimp only; walk1) | (leave1; walk_say "STEP leave1"; try dsimp only) | fail "no step")
  all_goals first
  | exact hret _ _ _ (by k_asm) (by walk_at "mine agr") (by first | exact sufN (by k_asm) [] rfl | exact sufN (by k_asm) [_] rfl | exact sufN (by k_asm) [_, _] rfl | exact sufN (by k_asm) [_, _, _] rfl | exact sufN (by k_asm) [_, _, _, _] rfl | exact sufN (by k_asm) [_, _, _, _, _] rfl)
  | skip
end

theorem initloop (w : World) (mean mg mb) {x d l : Addr} {vs : List Value} {nl : Nat} {kh : Int} {kt : Tok} {led : List (Addr × Obj)} {dp un : Nat} {gd : Option (List Code)} {cn : Str} {cs : Scope} {L0 aZ : Addr} {ccd : Value} {cl : List (Str × Addr)} {outer : List Env} {base : Heap} {h₀ : Heap} {L : Addr} {m : Str → Option Value}
   {s : Shared} {Q : Flow → Shared → Prop} {E : Value → Shared → Prop}
   (B : Below (ktrTop dp un gd cn cs L0 aZ ccd cl outer) base (envX cn cs L0 aZ ccd cl :: outer) h₀) (X : (Mine.hd.heap_1 w.params).In h₀) (T : Top VW LO mean mg mb h₀) (F : Fr h₀ L s.heap m) (N : News h₀ L s.heap led)
   (hk : cs.kind = .function) (hd : dp + 2 * 3 < recursionLimit) (hu : un + 20 * 3 < cLine) (hpo : PassesOwn (model PySem.Challenge.rw_pg0251_01.row.prog w) ((ktrTop dp un gd cn cs L0 aZ ccd cl outer).deeper (initE w L)) (initE w L) E)
   (ms : m "self" = some (.ref x)) (mh : m "headers" = some (.ref l)) (mx : (x, instObj 218 d) ∈ led) (md : (d, dictOf [⟨kh, .str (Str.ofString "_headers") kt, .ref l⟩] 1) ∈ led) (ml : (l, ({ cls := .type "list", data := .seq vs.toArray nl } : Obj)) ∈ led)
   (hall : ∀ v ∈ vs, ∃ (p : Addr) (n t : Str) (a b : Tok), v = .ref p ∧ (p, ({ cls := .type "tuple", data := .seq #[.str n a, .str t b] 0 } : Obj)) ∈ led ∧ NoFind codeNm n ∧ NoFind codeVl t)
   (hret : ∀ m' h' tk', Fr h₀ L h' m' → News h₀ L h' led → Q .next { s with heap := h', toks := tk' }) :
    wpAny (model PySem.Challenge.rw_pg0251_01.row.prog w) ((ktrTop dp un gd cn cs L0 aZ ccd cl outer).deeper (initE w L)) (exec (initFor w) (initE w L)) Q E s := by
  obtain ⟨px, po, e⟩ := init_for w
  rw [e]
  refine for_inv (env := initE w L) F (nameX_L F mh ?_) hpo
  refine ⟨l, vs, nl, m, _, fun i m' news => news = led ∧ Agr ["k", "v"] m m', rfl, rfl, F, N, ⟨rfl, Agr.refl⟩, ?_, ?_, ?_⟩
  · rintro i m' news' ⟨rfl, _⟩
    exact ml
  · rintro i v m' news' I oI h tk hv ⟨rfl, ag⟩ hc hI' F₁ N₁
    obtain ⟨p, n, t, a, b, rfl, mp, hn, ht⟩ := hall v (List.mem_of_getElem? hv)
    refine initturn w mean mg mb x d l p n t a b kh kt ((I, oI) :: news') dp un gd cn cs L0 aZ ccd cl outer base h₀ L m' hn ht (ag.at (by decide) ms) (.tail _ mx) (.tail _ md) (.tail _ mp) { s with heap := h, toks := tk } _ _ B X T F₁ N₁ hk hd hu fun m₃ h₃ tk₃ F₃ ag₃ N₃ => ?_
    exact ⟨.inl rfl, h₃, tk₃, m₃, _, rfl, F₃, N₃, fun p hp => Nat.ne_of_lt (hI' p hp), rfl, Agr.step ag₃ (by decide) ag⟩
  · rintro h tk m' news' F₁ N₁ ⟨rfl, ag⟩
    exact hret m' h tk F₁ N₁
section

set_option maxRecDepth 100000 in
set_option maxHeartbeats 8000000 in
theorem init_tell (w : World) (mean mg mb) (x d l : Addr) (nl : Nat) (p1 p2 p3 p4 p5 p6 p7 p8 p9 : Addr) (n1 t1 n2 t2 n3 t3 n4 t4 n5 t5 n6 t6 n7 t7 n8 t8 n9 t9 : Str) (a1 b1 a2 b2 a3 b3 a4 b4 a5 b5 a6 b6 a7 b7 a8 b8 a9 b9 : Tok)
   (hn1 : NoFind codeNm n1) (hv1 : NoFind codeVl t1) (hn2 : NoFind codeNm n2) (hv2 : NoFind codeVl t2) (hn3 : NoFind codeNm n3) (hv3 : NoFind codeVl t3) (hn4 : NoFind codeNm n4) (hv4 : NoFind codeVl t4) (hn5 : NoFind codeNm n5) (hv5 : NoFind codeVl t5) (hn6 : NoFind codeNm n6) (hv6 : NoFind codeVl t6) (hn7 : NoFind codeNm n7) (hv7 : NoFind codeVl t7) (hn8 : NoFind codeNm n8) (hv8 : NoFind codeVl t8) (hn9 : NoFind codeNm n9) (hv9 : NoFind codeVl t9) :
    TellM 3 w mean mg mb 112 d (dictOf [] 0) [(x, instObj 218 d), (l, { cls := .type "list", data := .seq #[.ref p1, .ref p2, .ref p3, .ref p4, .ref p5, .ref p6, .ref p7, .ref p8, .ref p9] nl }), (p1, ({ cls := .type "tuple", data := .seq #[.str n1 a1, .str t1 b1] 0 } : Obj)), (p2, ({ cls := .type "tuple", data := .seq #[.str n2 a2, .str t2 b2] 0 } : Obj)), (p3, ({ cls := .type "tuple", data := .seq #[.str n3 a3, .str t3 b3] 0 } : Obj)), (p4, ({ cls := .type "tuple", data := .seq #[.str n4 a4, .str t4 b4] 0 } : Obj)), (p5, ({ cls := .type "tuple", data := .seq #[.str n5 a5, .str t5 b5] 0 } : Obj)), (p6, ({ cls := .type "tuple", data := .seq #[.str n6 a6, .str t6 b6] 0 } : Obj)), (p7, ({ cls := .type "tuple", data := .seq #[.str n7 a7, .str t7 b7] 0 } : Obj)), (p8, ({ cls := .type "tuple", data := .seq #[.str n8 a8, .str t8 b8] 0 } : Obj)), (p9, ({ cls := .type "tuple", data := .seq #[.str n9 a9, .str t9 b9] 0 } : Obj))] [.ref x, .ref l] [] (fun o' tl v => tl = [] ∧ v = .none ∧ ∃ kh kt, o' = dictOf [⟨kh, .str (Str.ofString "_headers") kt, .ref l⟩] 1) := by
  w_on; unfold TellM; k_fill
  intro dp un gd cn cs aZ ccd cl outer A₀ base h₀ L m s R B F X N Nd T hk hd hu hret
  (try simp only [NeAll, and_true] at Nd); (try walk_at "mine split")
  k_dflt (refine' code_tell ?zqk1 ?zqk2 ?zqk3 ?zqk4 ?zqk5 ?zqkA ?zqkF ?zqkK ?zqk6 ?zqk7 ?zqk8 ?zqk9 ?zqkB ?_ ?zqc2 ?zqc3 ?zqc4 ?zqc5; (case zqkA => exact rfl); (case zqkF => exact rfl); (case zqkK => assumption); (case zqk1 => k_asm); (case zqk2 => k_asm); (case zqk3 => k_asm); (case zqk4 => k_asm); (case zqk5 => k_asm); (case zqk6 => k_is); (case zqk7 => k_is); (case zqk8 => ktr_room); (case zqk9 => first | exact BindsTo.of_eq rfl | exact binds_K (by k_in) rfl (by k_is) rfl rfl rfl); (case zqc5 => decide); (case zqkB => exact locs rfl); (case zqc2 => exact rfl); (case zqc3 => exact rfl); (case zqc4 => exact rfl); k_whole)
  intro g' L' h' hg FG' F' N' B' X' T' l0
  (try dsimp only); (try k_fold)
  repeat' (first | ((with_reducible show wpAny _ _ (exec (Stmt.For _ _ _ _ _) _) _ _ _); k_here; k_dflt (refine' initloop w mean mg mb ?B ?X ?T ?F ?N hk hd hu ?hpo ?ms ?mh ?mx ?md ?ml ?hall ?_; (case B => k_asm); (case X => k_asm); (case T => k_asm); (case F => k_asm); (case N => k_asm); (case ms => exact rfl); (case mh => exact rfl); (case mx => k_mem); (case md => k_mem); (case ml => k_mem); (case hpo => passes_own); (case hall => intro v hv; simp only [List.mem_cons, List.not_mem_nil, or_false] at hv; rcases hv with rfl | rfl | rfl | rfl | rfl | rfl | rfl | rfl | rfl; exact ⟨_, _, _, _, _, rfl, (by k_mem), hn1, hv1⟩; exact ⟨_, _, _, _, _, rfl, (by k_mem), hn2, hv2⟩; exact ⟨_, _, _, _, _, rfl, (by k_mem), hn3, hv3⟩; exact ⟨_, _, _, _, _, rfl, (by k_mem), hn4, hv4⟩; exact ⟨_, _, _, _, _, rfl, (by k_mem), hn5, hv5⟩; exact ⟨_, _, _, _, _, rfl, (by k_mem), hn6, hv6⟩; exact ⟨_, _, _, _, _, rfl, (by k_mem), hn7, hv7⟩; exact ⟨_, _, _, _, _, rfl, (by k_mem), hn8, hv8⟩; exact ⟨_, _, _, _, _, rfl, (by k_mem), hn9, hv9⟩); k_whole); intro m7 h7 tk7 F7 N7; (try k_sweep); (try dsimp only); (try k_fold)) |  (k_unfold; (try dsimp only)) | (k_end; wrow_close) | (walk1 <;> (try dsimp only) <;> (try walk_at "mine split")) | (dsimp only; walk1) | (leave1; walk_say "STEP leave1"; try dsimp only) | fail "no step")
  all_goals first
  | exact tell_finM hret hg (by k_asm) (by k_asm) N (by k_subL) (by k_mem) (⟨rfl, rfl, _, _, rfl⟩) (by k_subL) (by walk_at "mine ne")
end
end
section
local macro_rules | `(tactic| walk_at "mine agr") => `(tactic| first | exact Agr.refl | (refine Agr.set ?_ (by decide); walk_at "mine agr"))
local macro_rules | `(tactic| walk_at "mine mem") => `(tactic| first | exact List.Mem.head _ | assumption | (refine' List.Mem.tail _ ?_; walk_at "mine mem"))
local macro_rules | `(tactic| k_all) => `(tactic| first | assumption | exact neOfLt (by with_reducible assumption))
local macro_rules | `(tactic| k_all) => `(tactic| first | with_reducible assumption | exact neOfLt (by with_reducible assumption) | exact List.forall_mem_nil _ | (refine' List.forall_mem_cons.mpr ⟨?a, ?b⟩; (case a => k_ne); (case b => k_all)))
section
noncomputable def lcElt (e : Expr) : Expr := match e with
  | .ListComp a _ _ _ => a
  | _ => .Constant .none 0 default
noncomputable def lcGens (e : Expr) : List Comprehension := match e with
  | .ListComp _ g _ _ => g
  | _ => []
noncomputable def lcScope (e : Expr) : Scope := match e with
  | .ListComp _ _ sc _ => sc
  | _ => { kind := .function, names := [], isGenerator := false, isCoroutine := false }
noncomputable def lcPos (e : Expr) : Pos := match e with
  | .ListComp _ _ _ p => p
  | _ => default
noncomputable def lcIter (e : Expr) (i : Nat) : Expr := match (lcGens e)[i]? with
  | some g => g.iter
  | none => .Constant .none 0 default
noncomputable def lcIf (e : Expr) (i : Nat) : Expr := match (lcGens e)[i]? with
  | some g => g.ifs.headD (.Constant .none 0 default)
  | none => .Constant .none 0 default
noncomputable def retCmp (s : Stmt) : Expr := match s with
  | .Return (some (.Compare _ _ (c :: _) _)) _ => c
  | _ => .Constant .none 0 default
noncomputable def lc10 (w : World) : Expr := retCmp ((fnBody (lawO w)).getD 10 (.Pass default))
theorem lc10_names (w : World) : (lcScope (lc10 w)).names = [(Str.ofString ".0", .local), (Str.ofString "x", .local), (Str.ofString "y", .local), (Str.ofString "z", .local), (Str.ofString "_law_plain", .globalImplicit), (Str.ofString "pots", .free)] := rfl
noncomputable abbrev cloX (L : Addr) : List (Str × Addr) := [(Str.ofString "pots", L + 1)]
theorem clos10 (w : World) (L aL : Addr) (cd : Value) : closureFor (lcScope (lc10 w)) (lawE w L aL cd) = pure (cloX L) := rfl
noncomputable abbrev cE10 (w : World) (L aL : Addr) (cd : Value) (C : Addr) : Env := compEnvC (lcScope (lc10 w)) (cloX L) C (lawE w L aL cd)

set_option maxRecDepth 100000 in
set_option maxHeartbeats 8000000 in
theorem it10_1 (w : World) (mean mg mb) (h₀ : Heap) (L aL : Addr) (cd : Value) (m m₂ : Str → Option Value) (C pt q1 q2 q3 : Addr) (oC oP : Obj) (k : Nat) (led : List (Addr × Obj))
   (hC : PyProof.Rows.LCg.NsObj oC m₂) (hP : oP.data = .cell (some (.ref pt))) (mP : (L + 1, oP) ∈ led) (mt : (pt, ({ cls := .type "list", data := .seq #[.ref q1, .ref q2, .ref q3] k } : Obj)) ∈ led) (s : Shared) (Q : Value → Shared → Prop) (E : Value → Shared → Prop)
   (B : Below callerA h₀ [] h₀) (X : (Mine.hd.heap_1 w.params).In h₀) (T : Top VW LO mean mg mb h₀) (F : Fr h₀ L s.heap m) (N : News h₀ L s.heap ((C, oC) :: led))
   (hret : ∀ h' tk', Fr h₀ L h' m → News h₀ L h' ((C, oC) :: led) → Q (.ref q2) { s with heap := h', toks := tk' }) :
    wpAny (model PySem.Challenge.rw_pg0251_01.row.prog w) (lawA w L aL cd) (eval (lcIter (lc10 w) 1) (cE10 w L aL cd C)) Q E s := by
  w_on; revert X; k_fill; intro X
  k_dflt (show wpAny _ (callerA.deeper (envOfC _ (Scope.mk _ _ _ _ _) _ _ _)) (eval (.Subscript _ _ _) (compEnvC (Scope.mk _ _ _ _ _) _ _ (envOfC _ (Scope.mk _ _ _ _ _) _ _ _))) _ _ _)
  (try dsimp only); (try k_fold)
  repeat' (first | ((with_reducible show wpAny _ _ (exec (Stmt.For (Expr.Name _ _) (Expr.Name _ _) _ _ _) _) _ _ _); (k_here; (rename Fr _ _ _ _ => lF'); (with_unfolding_all refine' For_turns lF' ?_; k_whole))) | ((with_reducible show wpAny _ _ (call (Value.builtin "list.insert") _ _) _ _ _); ((with_reducible show wpAny _ _ (call _ (_ ++ _)) _ _ _); dsimp only [List.cons_append, List.nil_append])) | ((with_reducible show wpAny _ _ (subscriptTail _ _ (Value.ref _) _) _ _ _); (k_here; (with_reducible show wpAny _ _ (subscriptTail _ _ (Value.ref _) (Value.int _ _)) _ _ _); k_dflt (refine' sub_any ?zqk1 ?zqk2 ?zqkh ?zqk3 ?zqk4 ?zqk5 ?_; (case zqk1 => k_asm); (case zqk2 => k_mem); (case zqkh => first | exact .inr ⟨_, rfl⟩ | exact .inl ⟨_, rfl⟩); (case zqk3 => decide); (case zqk4 => decide); (case zqk5 => rfl)))) | ((with_reducible show wpAny _ _ (eval (Expr.Name _ _) _) _ _ _); (k_here; k_dflt (refine' nameX_L ?zqk1 ?zqk2 ?_; (case zqk1 => k_asm); (case zqk2 => assumption)))) | (k_unfold; (try dsimp only)) | (k_end; wrow_close) | (walk1 <;> (try dsimp only) <;> (try walk_at "mine split")) | (dsimp only; walk1) | (leave1; walk_say "STEP leave1"; try dsimp only) | fail "no step")
  all_goals exact hret _ _ (by k_asm) (by k_asm)

set_option maxRecDepth 100000 in
set_option maxHeartbeats 8000000 in
theorem it10_2 (w : World) (mean mg mb) (h₀ : Heap) (L aL : Addr) (cd : Value) (m m₂ : Str → Option Value) (C pt q1 q2 q3 : Addr) (oC oP : Obj) (k : Nat) (led : List (Addr × Obj))
   (hC : PyProof.Rows.LCg.NsObj oC m₂) (hP : oP.data = .cell (some (.ref pt))) (mP : (L + 1, oP) ∈ led) (mt : (pt, ({ cls := .type "list", data := .seq #[.ref q1, .ref q2, .ref q3] k } : Obj)) ∈ led) (s : Shared) (Q : Value → Shared → Prop) (E : Value → Shared → Prop)
   (B : Below callerA h₀ [] h₀) (X : (Mine.hd.heap_1 w.params).In h₀) (T : Top VW LO mean mg mb h₀) (F : Fr h₀ L s.heap m) (N : News h₀ L s.heap ((C, oC) :: led))
   (hret : ∀ h' tk', Fr h₀ L h' m → News h₀ L h' ((C, oC) :: led) → Q (.ref q3) { s with heap := h', toks := tk' }) :
    wpAny (model PySem.Challenge.rw_pg0251_01.row.prog w) (lawA w L aL cd) (eval (lcIter (lc10 w) 2) (cE10 w L aL cd C)) Q E s := by
  w_on; revert X; k_fill; intro X
  k_dflt (show wpAny _ (callerA.deeper (envOfC _ (Scope.mk _ _ _ _ _) _ _ _)) (eval (.Subscript _ _ _) (compEnvC (Scope.mk _ _ _ _ _) _ _ (envOfC _ (Scope.mk _ _ _ _ _) _ _ _))) _ _ _)
  (try dsimp only); (try k_fold)
  repeat' (first | ((with_reducible show wpAny _ _ (exec (Stmt.For (Expr.Name _ _) (Expr.Name _ _) _ _ _) _) _ _ _); (k_here; (rename Fr _ _ _ _ => lF'); (with_unfolding_all refine' For_turns lF' ?_; k_whole))) | ((with_reducible show wpAny _ _ (call (Value.builtin "list.insert") _ _) _ _ _); ((with_reducible show wpAny _ _ (call _ (_ ++ _)) _ _ _); dsimp only [List.cons_append, List.nil_append])) | ((with_reducible show wpAny _ _ (subscriptTail _ _ (Value.ref _) _) _ _ _); (k_here; (with_reducible show wpAny _ _ (subscriptTail _ _ (Value.ref _) (Value.int _ _)) _ _ _); k_dflt (refine' sub_any ?zqk1 ?zqk2 ?zqkh ?zqk3 ?zqk4 ?zqk5 ?_; (case zqk1 => k_asm); (case zqk2 => k_mem); (case zqkh => first | exact .inr ⟨_, rfl⟩ | exact .inl ⟨_, rfl⟩); (case zqk3 => decide); (case zqk4 => decide); (case zqk5 => rfl)))) | ((with_reducible show wpAny _ _ (eval (Expr.Name _ _) _) _ _ _); (k_here; k_dflt (refine' nameX_L ?zqk1 ?zqk2 ?_; (case zqk1 => k_asm); (case zqk2 => assumption)))) | (k_unfold; (try dsimp only)) | (k_end; wrow_close) | (walk1 <;> (try dsimp only) <;> (try walk_at "mine split")) | (dsimp only; walk1) | (leave1; walk_say "STEP leave1"; try dsimp only) | fail "no step")
  all_goals exact hret _ _ (by k_asm) (by k_asm)

set_option maxRecDepth 100000 in
set_option maxHeartbeats 8000000 in
theorem it10_0 (w : World) (mean mg mb) (h₀ : Heap) (L aL : Addr) (cd : Value) (m : Str → Option Value) (pt q1 q2 q3 : Addr) (oP : Obj) (k : Nat) (led : List (Addr × Obj))
   (hP : oP.data = .cell (some (.ref pt))) (mP : (L + 1, oP) ∈ led) (mt : (pt, ({ cls := .type "list", data := .seq #[.ref q1, .ref q2, .ref q3] k } : Obj)) ∈ led) (s : Shared) (Q : Value → Shared → Prop) (E : Value → Shared → Prop)
   (B : Below callerA h₀ [] h₀) (X : (Mine.hd.heap_1 w.params).In h₀) (T : Top VW LO mean mg mb h₀) (F : Fr h₀ L s.heap m) (N : News h₀ L s.heap led)
   (hret : ∀ h' tk', Fr h₀ L h' m → News h₀ L h' led → Q (.ref q1) { s with heap := h', toks := tk' }) :
    wpAny (model PySem.Challenge.rw_pg0251_01.row.prog w) (lawA w L aL cd) (eval (lcIter (lc10 w) 0) (lawE w L aL cd)) Q E s := by
  w_on; revert X; k_fill; intro X
  k_dflt (show wpAny _ (callerA.deeper (envOfC _ (Scope.mk _ _ _ _ _) _ _ _)) (eval (.Subscript _ _ _) (envOfC _ (Scope.mk _ _ _ _ _) _ _ _)) _ _ _)
  (try dsimp only); (try k_fold)
  repeat' (first | ((with_reducible show wpAny _ _ (exec (Stmt.For (Expr.Name _ _) (Expr.Name _ _) _ _ _) _) _ _ _); (k_here; (rename Fr _ _ _ _ => lF'); (with_unfolding_all refine' For_turns lF' ?_; k_whole))) | ((with_reducible show wpAny _ _ (call (Value.builtin "list.insert") _ _) _ _ _); ((with_reducible show wpAny _ _ (call _ (_ ++ _)) _ _ _); dsimp only [List.cons_append, List.nil_append])) | ((with_reducible show wpAny _ _ (subscriptTail _ _ (Value.ref _) _) _ _ _); (k_here; (with_reducible show wpAny _ _ (subscriptTail _ _ (Value.ref _) (Value.int _ _)) _ _ _); k_dflt (refine' sub_any ?zqk1 ?zqk2 ?zqkh ?zqk3 ?zqk4 ?zqk5 ?_; (case zqk1 => k_asm); (case zqk2 => k_mem); (case zqkh => first | exact .inr ⟨_, rfl⟩ | exact .inl ⟨_, rfl⟩); (case zqk3 => decide); (case zqk4 => decide); (case zqk5 => rfl)))) | ((with_reducible show wpAny _ _ (eval (Expr.Name _ _) _) _ _ _); (k_here; k_dflt (refine' nameX_L ?zqk1 ?zqk2 ?_; (case zqk1 => k_asm); (case zqk2 => assumption)))) | (k_unfold; (try dsimp only)) | (k_end; wrow_close) | (walk1 <;> (try dsimp only) <;> (try walk_at "mine split")) | (dsimp only; walk1) | (leave1; walk_say "STEP leave1"; try dsimp only) | fail "no step")
  all_goals exact hret _ _ (by k_asm) (by k_asm)

theorem plainB_eq {b : Bool} {a1 b1 c1 a2 b2 c2 a3 b3 c3 : Int} (hb : b = true ↔ PlainP a1 b1 c1 a2 b2 c2 a3 b3 c3) (h1 : 0 ≤ a1 ∧ a1 ≤ 8) (h2 : 0 ≤ b1 ∧ b1 ≤ 8) (h3 : 0 ≤ c1 ∧ c1 ≤ 8) (h4 : 0 ≤ a2 ∧ a2 ≤ 8) (h5 : 0 ≤ b2 ∧ b2 ≤ 8) (h6 : 0 ≤ c2 ∧ c2 ≤ 8) (h7 : 0 ≤ a3 ∧ a3 ≤ 8) (h8 : 0 ≤ b3 ∧ b3 ≤ 8) (h9 : 0 ≤ c3 ∧ c3 ≤ 8) :
    b = canB a1 b1 c1 a2 b2 c2 a3 b3 c3 := by
  rw [Bool.eq_iff_iff, hb, can_plain (show In8 a1 b1 c1 from ⟨h1, h2, h3⟩) (show In8 a2 b2 c2 from ⟨h4, h5, h6⟩) (show In8 a3 b3 c3 from ⟨h7, h8, h9⟩)]
theorem testEnd {Q : Bool → Shared → Prop} {b c : Bool} {s : Shared} (e : b = c) (h : Q c s) : Q b s := e ▸ h

set_option maxRecDepth 100000 in
set_option maxHeartbeats 8000000 in
theorem test10 (w : World) (mean mg mb) (h₀ : Heap) (L aL : Addr) (cd : Value) (m m₂ : Str → Option Value) (C : Addr) (oC : Obj) (x y z : Addr) (aX bX cX aY bY cY aZ bZ cZ : Int) (tx1 tx2 tx3 ty1 ty2 ty3 tz1 tz2 tz3 : Tok) (led : List (Addr × Obj))
   (hC : PyProof.Rows.LCg.NsObj oC m₂) (hx : m₂ "x" = some (.ref x)) (hy : m₂ "y" = some (.ref y)) (hz : m₂ "z" = some (.ref z)) (ha1 : 0 ≤ aX ∧ aX ≤ 8) (hb1 : 0 ≤ bX ∧ bX ≤ 8) (hc1 : 0 ≤ cX ∧ cX ≤ 8) (ha2 : 0 ≤ aY ∧ aY ≤ 8) (hb2 : 0 ≤ bY ∧ bY ≤ 8) (hc2 : 0 ≤ cY ∧ cY ≤ 8) (ha3 : 0 ≤ aZ ∧ aZ ≤ 8) (hb3 : 0 ≤ bZ ∧ bZ ≤ 8) (hc3 : 0 ≤ cZ ∧ cZ ≤ 8) (mx : (x, tup3 aX bX cX tx1 tx2 tx3) ∈ led) (my : (y, tup3 aY bY cY ty1 ty2 ty3) ∈ led) (mz : (z, tup3 aZ bZ cZ tz1 tz2 tz3) ∈ led) (s : Shared) (Q : Bool → Shared → Prop) (E : Value → Shared → Prop)
   (B : Below callerA h₀ [] h₀) (X : (Mine.hd.heap_1 w.params).In h₀) (T : Top VW LO mean mg mb h₀) (F : Fr h₀ L s.heap m) (N : News h₀ L s.heap ((C, oC) :: led))
   (hret : ∀ h' tk', Fr h₀ L h' m → News h₀ L h' ((C, oC) :: led) → Q (canB aX bX cX aY bY cY aZ bZ cZ) { s with heap := h', toks := tk' }) :
    wpAny (model PySem.Challenge.rw_pg0251_01.row.prog w) (lawA w L aL cd) (isTrue (lcIf (lc10 w) 2) (cE10 w L aL cd C) (eval (lcIf (lc10 w) 2) (cE10 w L aL cd C))) Q E s := by
  w_on; revert X; k_fill; intro X
  k_dflt (show wpAny _ (callerA.deeper (envOfC _ (Scope.mk _ _ _ _ _) _ _ _)) (isTrue (.Call _ _ _ _) _ (eval (.Call _ _ _ _) (compEnvC (Scope.mk _ _ _ _ _) _ _ (envOfC _ (Scope.mk _ _ _ _ _) _ _ _)))) _ _ _)
  (try dsimp only); (try k_fold)
  repeat' (first | ((with_reducible show wpAny _ _ (call (Value.ref _) _ _) _ _ _); (k_here; k_dflt (refine' tell_use (plain_tell _ _ _ _ _ _ _ _ _ _ _ _ _ _ _ _ _ _ _ _ _ _ _ _ _ _ _ ?zqh1 ?zqh2 ?zqh3 ?zqh4 ?zqh5 ?zqh6 ?zqh7 ?zqh8 ?zqh9) ?zqB ?zqF ?zqX ?zqN ?zqT ?zqhk ?zqhd ?zqhu ?zqhs ?_; (case zqB => k_asm); (case zqF => k_asm); (case zqX => k_asm); (case zqN => k_asm); (case zqT => k_asm); (case zqhk => first | exact rfl | assumption); (case zqhd => ktr_room); (case zqhu => ktr_units); (case zqhs => k_subL); (case zqh1 => assumption); (case zqh2 => assumption); (case zqh3 => assumption); (case zqh4 => assumption); (case zqh5 => assumption); (case zqh6 => assumption); (case zqh7 => assumption); (case zqh8 => assumption); (case zqh9 => assumption); k_whole); intro r9 tl9 h9 tk9 p9 k9 F9 N9 e9; obtain ⟨tl9e, b9, r9e, hb9⟩ := p9; subst r9e; subst tl9e; (try simp only [List.cons_append, List.nil_append] at N9); (try simp only [NeAlls, NeAll, and_true, true_and, and_assoc] at e9); (repeat (have e8 := e9.1; replace e9 := e9.2)); (try k_sweep); (try dsimp only); (try k_fold))) | ((with_reducible show wpAny _ _ (exec (Stmt.For (Expr.Name _ _) (Expr.Name _ _) _ _ _) _) _ _ _); (k_here; (rename Fr _ _ _ _ => lF'); (with_unfolding_all refine' For_turns lF' ?_; k_whole))) | ((with_reducible show wpAny _ _ (call (Value.builtin "list.insert") _ _) _ _ _); ((with_reducible show wpAny _ _ (call _ (_ ++ _)) _ _ _); dsimp only [List.cons_append, List.nil_append])) | ((with_reducible show wpAny _ _ (subscriptTail _ _ (Value.ref _) _) _ _ _); (k_here; (with_reducible show wpAny _ _ (subscriptTail _ _ (Value.ref _) (Value.int _ _)) _ _ _); k_dflt (refine' sub_any ?zqk1 ?zqk2 ?zqkh ?zqk3 ?zqk4 ?zqk5 ?_; (case zqk1 => k_asm); (case zqk2 => k_mem); (case zqkh => first | exact .inr ⟨_, rfl⟩ | exact .inl ⟨_, rfl⟩); (case zqk3 => decide); (case zqk4 => decide); (case zqk5 => rfl)))) | ((with_reducible show wpAny _ _ (eval (Expr.Name _ _) _) _ _ _); (k_here; k_dflt (refine' nameX_L ?zqk1 ?zqk2 ?_; (case zqk1 => k_asm); (case zqk2 => assumption)))) | (k_unfold; (try dsimp only)) | (k_end; wrow_close) | (walk1 <;> (try dsimp only) <;> (try walk_at "mine split")) | (dsimp only; walk1) | (leave1; walk_say "STEP leave1"; try dsimp only) | fail "no step")
  all_goals first
  | exact testEnd (plainB_eq (by assumption) (by assumption) (by assumption) (by assumption) (by assumption) (by assumption) (by assumption) (by assumption) (by assumption) (by assumption)) (hret _ _ (by k_asm) (by first | exact sufN (by k_asm) [] rfl | exact sufN (by k_asm) [_] rfl | exact sufN (by k_asm) [_, _] rfl | exact sufN (by k_asm) [_, _, _] rfl | exact sufN (by k_asm) [_, _, _, _] rfl | exact sufN (by k_asm) [_, _, _, _, _] rfl | exact sufN (by k_asm) [_, _, _, _, _, _] rfl | exact sufN (by k_asm) [_, _, _, _, _, _, _] rfl))

set_option maxRecDepth 100000 in
set_option maxHeartbeats 8000000 in
theorem elt10 (w : World) (mean mg mb) (h₀ : Heap) (L aL : Addr) (cd : Value) (m m₂ : Str → Option Value) (C : Addr) (oC : Obj) (x y z : Addr) (led : List (Addr × Obj))
   (hC : PyProof.Rows.LCg.NsObj oC m₂) (hx : m₂ "x" = some (.ref x)) (hy : m₂ "y" = some (.ref y)) (hz : m₂ "z" = some (.ref z)) (s : Shared) (Q : Value → Shared → Prop) (E : Value → Shared → Prop)
   (B : Below callerA h₀ [] h₀) (X : (Mine.hd.heap_1 w.params).In h₀) (T : Top VW LO mean mg mb h₀) (F : Fr h₀ L s.heap m) (N : News h₀ L s.heap ((C, oC) :: led))
   (hret : ∀ D h' tk', Fr h₀ L h' m → News h₀ L h' ((D, ({ cls := .type "list", data := .seq #[.ref x, .ref y, .ref z] 0 } : Obj)) :: (C, oC) :: led) → (∀ p ∈ (C, oC) :: led, p.1 ≠ D) → Q (.ref D) { s with heap := h', toks := tk' }) :
    wpAny (model PySem.Challenge.rw_pg0251_01.row.prog w) (lawA w L aL cd) (eval (lcElt (lc10 w)) (cE10 w L aL cd C)) Q E s := by
  w_on; revert X; k_fill; intro X
  k_dflt (show wpAny _ (callerA.deeper (envOfC _ (Scope.mk _ _ _ _ _) _ _ _)) (eval (.List _ _) (compEnvC (Scope.mk _ _ _ _ _) _ _ (envOfC _ (Scope.mk _ _ _ _ _) _ _ _))) _ _ _)
  (try dsimp only); (try k_fold)
  repeat' (first | ((with_reducible show wpAny _ _ (call (Value.ref _) _ _) _ _ _); (k_here; k_dflt (refine' tell_use (plain_tell _ _ _ _ _ _ _ _ _ _ _ _ _ _ _ _ _ _ _ _ _ _ _ _ _ _ _ ?zqh1 ?zqh2 ?zqh3 ?zqh4 ?zqh5 ?zqh6 ?zqh7 ?zqh8 ?zqh9) ?zqB ?zqF ?zqX ?zqN ?zqT ?zqhk ?zqhd ?zqhu ?zqhs ?_; (case zqB => k_asm); (case zqF => k_asm); (case zqX => k_asm); (case zqN => k_asm); (case zqT => k_asm); (case zqhk => first | exact rfl | assumption); (case zqhd => ktr_room); (case zqhu => ktr_units); (case zqhs => k_subL); (case zqh1 => assumption); (case zqh2 => assumption); (case zqh3 => assumption); (case zqh4 => assumption); (case zqh5 => assumption); (case zqh6 => assumption); (case zqh7 => assumption); (case zqh8 => assumption); (case zqh9 => assumption); k_whole); intro r9 tl9 h9 tk9 p9 k9 F9 N9 e9; obtain ⟨tl9e, b9, r9e, hb9⟩ := p9; subst r9e; subst tl9e; (try simp only [List.cons_append, List.nil_append] at N9); (try simp only [NeAlls, NeAll, and_true, true_and, and_assoc] at e9); (repeat (have e8 := e9.1; replace e9 := e9.2)); (try k_sweep); (try dsimp only); (try k_fold))) | ((with_reducible show wpAny _ _ (exec (Stmt.For (Expr.Name _ _) (Expr.Name _ _) _ _ _) _) _ _ _); (k_here; (rename Fr _ _ _ _ => lF'); (with_unfolding_all refine' For_turns lF' ?_; k_whole))) | ((with_reducible show wpAny _ _ (call (Value.builtin "list.insert") _ _) _ _ _); ((with_reducible show wpAny _ _ (call _ (_ ++ _)) _ _ _); dsimp only [List.cons_append, List.nil_append])) | ((with_reducible show wpAny _ _ (subscriptTail _ _ (Value.ref _) _) _ _ _); (k_here; (with_reducible show wpAny _ _ (subscriptTail _ _ (Value.ref _) (Value.int _ _)) _ _ _); k_dflt (refine' sub_any ?zqk1 ?zqk2 ?zqkh ?zqk3 ?zqk4 ?zqk5 ?_; (case zqk1 => k_asm); (case zqk2 => k_mem); (case zqkh => first | exact .inr ⟨_, rfl⟩ | exact .inl ⟨_, rfl⟩); (case zqk3 => decide); (case zqk4 => decide); (case zqk5 => rfl)))) | ((with_reducible show wpAny _ _ (eval (Expr.Name _ _) _) _ _ _); (k_here; k_dflt (refine' nameX_L ?zqk1 ?zqk2 ?_; (case zqk1 => k_asm); (case zqk2 => assumption)))) | (k_unfold; (try dsimp only)) | (k_end; wrow_close) | (walk1 <;> (try dsimp only) <;> (try walk_at "mine split")) | (dsimp only; walk1) | (leave1; walk_say "STEP leave1"; try dsimp only) | fail "no step")
  all_goals first
  | exact hret _ _ _ (by k_asm) (by k_asm) (List.forall_mem_cons.mpr ⟨Nat.ne_of_lt (by assumption), neOfLt (by assumption)⟩)
end
section
noncomputable def assignVal (s : Stmt) : Expr := match s with
  | .Assign _ v _ => v
  | _ => .Constant .none 0 default
noncomputable def lc0 (w : World) : Expr := assignVal ((fnBody (lawO w)).getD 0 (.Pass default))
theorem lc0_names (w : World) : (lcScope (lc0 w)).names = [(Str.ofString ".0", .local), (Str.ofString "v", .local)] := rfl
noncomputable abbrev cE0 (w : World) (L aL : Addr) (cd : Value) (C : Addr) : Env := compEnvC (lcScope (lc0 w)) [] C (lawE w L aL cd)
section
variable {prog : Program} {w : World} {A : Around} {E : Value → Shared → Prop} {s : Shared} {h₀ hp : Heap} {L l b : Addr} {m : Str → Option Value} {news : List (Addr × Obj)} {vs ws : List Value} {ns ms : List Int} {value slice : Expr} {vl vu : Value} {lo hi : Option Int} {Q : Value → Shared → Prop} {tk c : Nat}
theorem ints6 {t1 t2 t3 t4 t5 t6 : Tok} : IntsAre [.int 33 t1, .int 101 t2, .int 7 t3, .int 58 t4, .int 4 t5, .int 100 t6] [33, 101, 7, 58, 4, 100] := .cons _ _ (.cons _ _ (.cons _ _ (.cons _ _ (.cons _ _ (.cons _ _ .nil)))))
theorem sl_ints (F : Fr h₀ L hp m) (N : News h₀ L hp news) (hl : hp.IsList l vs.toArray) (pl : IsPart vl lo) (pu : IsPart vu hi) (hi' : IntsAre vs ns) (hm : IntsAre (slicePick vs.toArray lo hi none).toList ms) (hc : ms.length = c)
    (h : ∀ D ws h', Fr h₀ L h' m → News h₀ L h' ((D, listOf (List.toArray ws) 0) :: news) → (∀ p ∈ news, p.1 < D) → IntsAre ws ms → ms.length = c → ms.length ≤ ns.length → Q (.ref D) { s with heap := h', toks := tk })
    (hs : subscripted slice false (.ref l) (.ref hp.objs.size) = operate [.ref hp.objs.size, .ref l] (getItem (.ref l) (.ref hp.objs.size))) (ht : ∀ r, letTemporaryGo value (.ref l) r = pure ()) (hz : vs.toArray.size ≤ sizeLine) :
    wpAny (model prog w) A (subscriptTail value slice (.ref l) (.ref hp.objs.size)) Q E { heap := hp.push { cls := .type "slice", data := .fields #[vl, vu, .none] }, gens := s.gens, drawn := s.drawn, toks := tk, os := s.os } :=
  kmk_slice_ints (s := { s with heap := hp, toks := tk }) F N hl pl pu hi' hm hc h hs ht hz
end

set_option maxRecDepth 100000 in
set_option maxHeartbeats 8000000 in
theorem it0 (w : World) (mean mg mb) (h₀ : Heap) (L aL : Addr) (cd : Value) (m : Str → Option Value) (a : Addr) (vs : List Value) (ns : List Int) (led : List (Addr × Obj))
   (hm : m "script" = some (.ref a)) (hL : h₀.IsList a vs.toArray) (hI : IntsAre vs ns) (h63 : ns.length ≤ 63) (s : Shared) (Q : Value → Shared → Prop) (E : Value → Shared → Prop)
   (B : Below callerA h₀ [] h₀) (X : (Mine.hd.heap_1 w.params).In h₀) (T : Top VW LO mean mg mb h₀) (F : Fr h₀ L s.heap m) (N : News h₀ L s.heap led)
   (hret : ∀ D ws ms h' tk', Fr h₀ L h' m → News h₀ L h' ((D, listOf (List.toArray ws) 0) :: led) → (∀ p ∈ led, p.1 ≠ D) → IntsAre ws ms → ms.length = 6 → Q (.ref D) { s with heap := h', toks := tk' }) :
    wpAny (model PySem.Challenge.rw_pg0251_01.row.prog w) (lawA w L aL cd) (eval (lcIter (lc0 w) 0) (lawE w L aL cd)) Q E s := by
  w_on; revert X; k_fill; intro X
  k_dflt (show wpAny _ (callerA.deeper (envOfC _ (Scope.mk _ _ _ _ _) _ _ _)) (eval (.BinOp _ _ _ _) (envOfC _ (Scope.mk _ _ _ _ _) _ _ _)) _ _ _)
  (try dsimp only); (try k_fold)
  repeat' (first | ((with_reducible show wpAny _ _ (subscriptTail _ _ (Value.ref _) _) _ _ _); (k_here; (with_reducible show wpAny _ _ (subscriptTail (PySem.Expr.List _ _) (PySem.Expr.Slice _ _ none _) (Value.ref _) (Value.ref _)) _ _ _); k_dflt (refine' sl_ints (ns := [33, 101, 7, 58, 4, 100]) ?zqF ?zqN ?zql ?zqp ?zqq ?zqi ?zqm ?zqc ?_ ?zqs ?zqt ?zqz; (case zqF => k_asm); (case zqN => k_asm); (case zql => exact News.isList (by k_asm) (by k_mem)); (case zqp => exact IsPart.int _ _); (case zqq => exact IsPart.none); (case zqi => exact ints6); (case zqm => exact kmk_from ints6 (Int.natCast_nonneg _)); (case zqc => exact List.length_drop ..); (case zqs => with_unfolding_all rfl); (case zqt => kmk_pure); (case zqz => exact Nat.le_of_ble_eq_true rfl)); intro D' ws' h' F' N' l1 hI' hC' hL'; (try k_lt l1); (try k_sweep))) | ((with_reducible show wpAny _ _ (subscriptTail _ _ (Value.ref _) _) _ _ _); (k_here; (with_reducible show wpAny _ _ (subscriptTail _ (PySem.Expr.Slice _ _ none _) (Value.ref _) (Value.ref _)) _ _ _); k_dflt (refine' sl_ints ?zqF ?zqN ?zql ?zqp ?zqq ?zqi ?zqm ?zqc ?_ ?zqs ?zqt ?zqz; (case zqF => k_asm); (case zqN => k_asm); (case zql => kmk_list); (case zqp => kmk_part); (case zqq => kmk_part); (case zqi => l_ints); (case zqm => kmk_nums); (case zqc => kmk_len); (case zqs => with_unfolding_all rfl); (case zqt => kmk_pure); (case zqz => kmk_size)); intro D' ws' h' F' N' l1 hI' hC' hL'; (try simp only [Int.reduceNeg, Int.neg_neg, Int.reduceToNat] at hI' hC' hL'); (try k_lt l1); (try k_sweep))) | ((with_reducible show wpAny _ _ (eval (Expr.Name _ _) _) _ _ _); (k_here; k_dflt (refine' nameX_L ?zqk1 ?zqk2 ?_; (case zqk1 => k_asm); (case zqk2 => assumption)))) | (k_unfold; (try dsimp only)) | (k_end; wrow_close) | (walk1 <;> (try dsimp only) <;> (try walk_at "mine split")) | (dsimp only; walk1) | (leave1; walk_say "STEP leave1"; try dsimp only) | fail "no step")
  all_goals first
  | exact hret _ _ _ _ _ (by k_asm) (consN (by k_asm) (List.Mem.head _) (by first | exact sufN (by k_asm) [] rfl | exact sufN (by k_asm) [_] rfl | exact sufN (by k_asm) [_, _] rfl | exact sufN (by k_asm) [_, _, _] rfl | exact sufN (by k_asm) [_, _, _, _] rfl | exact sufN (by k_asm) [_, _, _, _, _] rfl | exact sufN (by k_asm) [_, _, _, _, _, _] rfl | exact sufN (by k_asm) [_, _, _, _, _, _, _] rfl | exact sufN (by k_asm) [_, _, _, _, _, _, _, _] rfl | exact sufN (by k_asm) [_, _, _, _, _, _, _, _, _] rfl | exact sufN (by k_asm) [_, _, _, _, _, _, _, _, _, _] rfl | exact sufN (by k_asm) [_, _, _, _, _, _, _, _, _, _, _] rfl | exact sufN (by k_asm) [_, _, _, _, _, _, _, _, _, _, _, _] rfl | exact sufN (by k_asm) [_, _, _, _, _, _, _, _, _, _, _, _, _] rfl | exact sufN (by k_asm) [_, _, _, _, _, _, _, _, _, _, _, _, _, _] rfl | exact sufN (by k_asm) [_, _, _, _, _, _, _, _, _, _, _, _, _, _, _] rfl)) (neOfLt (by assumption)) (by assumption) (by simp only [List.length_append, List.length_take, List.length_drop, List.length_cons, List.length_nil]; omega)
  | skip

set_option maxRecDepth 100000 in
set_option maxHeartbeats 8000000 in
theorem elt0 (w : World) (mean mg mb) (h₀ : Heap) (L aL : Addr) (cd : Value) (m m₂ : Str → Option Value) (C : Addr) (oC : Obj) (n : Int) (t : Tok) (led : List (Addr × Obj))
   (hC : PyProof.Rows.LCg.NsObj oC m₂) (hv : m₂ "v" = some (.int n t)) (s : Shared) (Q : Value → Shared → Prop) (E : Value → Shared → Prop)
   (B : Below callerA h₀ [] h₀) (X : (Mine.hd.heap_1 w.params).In h₀) (T : Top VW LO mean mg mb h₀) (F : Fr h₀ L s.heap m) (N : News h₀ L s.heap ((C, oC) :: led))
   (hret : ∀ D t1 t2 t3 h' tk', Fr h₀ L h' m → News h₀ L h' ((D, tup3 (n.fmod 5) ((n.fdiv 5).fmod 5) ((n.fdiv 25).fmod 5) t1 t2 t3) :: (C, oC) :: led) → (∀ p ∈ (C, oC) :: led, p.1 ≠ D) → Q (.ref D) { s with heap := h', toks := tk' }) :
    wpAny (model PySem.Challenge.rw_pg0251_01.row.prog w) (lawA w L aL cd) (eval (lcElt (lc0 w)) (cE0 w L aL cd C)) Q E s := by
  w_on; revert X; k_fill; intro X
  k_dflt (show wpAny _ (callerA.deeper (envOfC _ (Scope.mk _ _ _ _ _) _ _ _)) (eval (.Tuple _ _ _) (compEnvC (Scope.mk _ _ _ _ _) _ _ (envOfC _ (Scope.mk _ _ _ _ _) _ _ _))) _ _ _)
  (try dsimp only); (try k_fold)
  repeat' (first | ((with_reducible show wpAny _ _ (subscriptTail _ _ (Value.ref _) _) _ _ _); (k_here; (with_reducible show wpAny _ _ (subscriptTail (PySem.Expr.List _ _) (PySem.Expr.Slice _ _ none _) (Value.ref _) (Value.ref _)) _ _ _); k_dflt (refine' sl_ints (ns := [33, 101, 7, 58, 4, 100]) ?zqF ?zqN ?zql ?zqp ?zqq ?zqi ?zqm ?zqc ?_ ?zqs ?zqt ?zqz; (case zqF => k_asm); (case zqN => k_asm); (case zql => exact News.isList (by k_asm) (by k_mem)); (case zqp => exact IsPart.int _ _); (case zqq => exact IsPart.none); (case zqi => exact ints6); (case zqm => exact kmk_from ints6 (Int.natCast_nonneg _)); (case zqc => exact List.length_drop ..); (case zqs => with_unfolding_all rfl); (case zqt => kmk_pure); (case zqz => exact Nat.le_of_ble_eq_true rfl)); intro D' ws' h' F' N' l1 hI' hC' hL'; (try k_lt l1); (try k_sweep))) | ((with_reducible show wpAny _ _ (subscriptTail _ _ (Value.ref _) _) _ _ _); (k_here; (with_reducible show wpAny _ _ (subscriptTail _ (PySem.Expr.Slice _ _ none _) (Value.ref _) (Value.ref _)) _ _ _); k_dflt (refine' sl_ints ?zqF ?zqN ?zql ?zqp ?zqq ?zqi ?zqm ?zqc ?_ ?zqs ?zqt ?zqz; (case zqF => k_asm); (case zqN => k_asm); (case zql => kmk_list); (case zqp => kmk_part); (case zqq => kmk_part); (case zqi => l_ints); (case zqm => kmk_nums); (case zqc => kmk_len); (case zqs => with_unfolding_all rfl); (case zqt => kmk_pure); (case zqz => kmk_size)); intro D' ws' h' F' N' l1 hI' hC' hL'; (try simp only [Int.reduceNeg, Int.neg_neg, Int.reduceToNat] at hI' hC' hL'); (try k_lt l1); (try k_sweep))) | ((with_reducible show wpAny _ _ (eval (Expr.Name _ _) _) _ _ _); (k_here; k_dflt (refine' nameX_L ?zqk1 ?zqk2 ?_; (case zqk1 => k_asm); (case zqk2 => assumption)))) | (k_unfold; (try dsimp only)) | (k_end; wrow_close) | (walk1 <;> (try dsimp only) <;> (try walk_at "mine split")) | (dsimp only; walk1) | (leave1; walk_say "STEP leave1"; try dsimp only) | fail "no step")
  all_goals first
  | exact hret _ _ _ _ _ _ (by k_asm) (by k_asm) (List.forall_mem_cons.mpr ⟨Nat.ne_of_lt (by assumption), neOfLt (by assumption)⟩)
  | skip
end
section
open PyProof.Rows.LCg
/-- all that is new in a heap -/
noncomputable def every (h₀ h : Heap) (L : Addr) : List (Addr × Obj) := (List.range h.objs.size).filterMap fun b => match h.get? b, h₀.get? b with
  | some o, none => if b = L then none else some (b, o)
  | _, _ => none
theorem every_mem {h₀ h : Heap} {L b : Addr} {o : Obj} (e : h.get? b = some o) (e₀ : h₀.get? b = none) (hb : b ≠ L) : (b, o) ∈ every h₀ h L := by
  refine List.mem_filterMap.mpr ⟨b, List.mem_range.mpr (Heap.lt_size e), ?_⟩
  rw [e, e₀]; exact if_neg hb
theorem every_news {h₀ h : Heap} {L : Addr} : News h₀ L h (every h₀ h L) := fun p hp => by
  obtain ⟨b, _, e⟩ := List.mem_filterMap.mp hp
  cases e1 : h.get? b with
  | none => rw [e1] at e; cases e
  | some o =>
    cases e2 : h₀.get? b with
    | some o' => rw [e1, e2] at e; cases e
    | none =>
      rw [e1, e2] at e
      dsimp only at e
      by_cases hb : b = L
      · rw [if_pos hb] at e; cases e
      · rw [if_neg hb] at e; cases e; exact ⟨e1, hb, e2⟩
theorem every_of {h₀ h : Heap} {L : Addr} {l : List (Addr × Obj)} (N : News h₀ L h l) : ∀ p ∈ l, p ∈ every h₀ h L := fun p hp => every_mem (N p hp).1 (N p hp).2.2 (N p hp).2.1
theorem every_kept {h₀ h h' : Heap} {L : Addr} {m m' : Str → Option Value} {l : List (Addr × Obj)} (F : Fr h₀ L h m) (F' : Fr h₀ L h' m') (N' : News h₀ L h' l) (hl : ∀ p ∈ every h₀ h L, p ∈ l) : ∀ b o, b ≠ L → h.get? b = some o → h'.get? b = some o := fun b o hb e => by
  cases e0 : h₀.get? b with
  | none => exact (N' _ (hl _ (every_mem e e0 hb))).1
  | some o' =>
    have := F.keep _ _ e0
    rw [e] at this
    rw [Option.some.inj this]; exact F'.keep _ _ e0
/-- what a comprehension has made so far; X: what its machinery writes -/
noncomputable def CInv (h₀ : Heap) (L : Addr) (m : Str → Option Value) (base : List (Addr × Obj)) (X : List Addr) (D : Addr) (n : Nat) (ts : List (Addr × Addr × Addr)) (ys : List Value) (h : Heap) : Prop :=
  ∃ objs, Fr h₀ L h m ∧ News h₀ L h (base ++ objs) ∧ (∀ p ∈ base ++ objs, p.1 ∉ X) ∧ TIn n D ts ys objs
theorem CInv.keep {h₀ h h' : Heap} {L : Addr} {m : Str → Option Value} {base : List (Addr × Obj)} {X : List Addr} {D : Addr} {n : Nat} {ts : List (Addr × Addr × Addr)} {ys : List Value} (c : CInv h₀ L m base X D n ts ys h) (hL : L ∉ X) (hX : ∀ a ∈ X, h₀.get? a = none)
    (hk : ∀ b o, b ∉ X → h.get? b = some o → h'.get? b = some o) : CInv h₀ L m base X D n ts ys h' := by
  obtain ⟨objs, F, N, off, t⟩ := c
  exact ⟨objs, ⟨F.ns.at' fun o e => hk _ o hL e, fun b o e => hk b o (fun q => by rw [hX b q] at e; cases e) (F.keep b o e), F.above⟩, fun p hp => ⟨hk _ _ (off p hp) (N p hp).1, (N p hp).2⟩, off, t⟩
theorem CInv.re {h₀ h h' : Heap} {L : Addr} {m : Str → Option Value} {base : List (Addr × Obj)} {X : List Addr} {D : Addr} {n : Nat} {ts : List (Addr × Addr × Addr)} {ys : List Value} (c : CInv h₀ L m base X D n ts ys h) (F' : Fr h₀ L h' m)
    (hk : ∀ b o, b ≠ L → h.get? b = some o → h'.get? b = some o) : CInv h₀ L m base X D n ts ys h' := by
  obtain ⟨objs, F, N, off, t⟩ := c
  exact ⟨objs, F', fun p hp => ⟨hk _ _ (N p hp).2.1 (N p hp).1, (N p hp).2⟩, off, t⟩
theorem CInv.add {h₀ h : Heap} {L I : Addr} {m : Str → Option Value} {base : List (Addr × Obj)} {X : List Addr} {D : Addr} {n : Nat} {ts : List (Addr × Addr × Addr)} {ys : List Value} (c : CInv h₀ L m base X D n ts ys h) (hI : h.get? I = none) : CInv h₀ L m base (I :: X) D n ts ys h := by
  obtain ⟨objs, F, N, off, t⟩ := c
  refine ⟨objs, F, N, fun p hp q => ?_, t⟩
  rcases List.mem_cons.mp q with q | q
  · have := (N p hp).1; rw [q, hI] at this; cases this
  · exact off p hp q
theorem CInv.drop {h₀ h : Heap} {L : Addr} {m : Str → Option Value} {base : List (Addr × Obj)} {X X' : List Addr} {D : Addr} {n : Nat} {ts : List (Addr × Addr × Addr)} {ys : List Value} (c : CInv h₀ L m base X D n ts ys h) (hs : ∀ a ∈ X', a ∈ X) : CInv h₀ L m base X' D n ts ys h := by
  obtain ⟨objs, F, N, off, t⟩ := c
  exact ⟨objs, F, N, fun p hp q => off p hp (hs _ q), t⟩
theorem CInv.fr {h₀ h : Heap} {L : Addr} {m : Str → Option Value} {base : List (Addr × Obj)} {X : List Addr} {D : Addr} {n : Nat} {ts : List (Addr × Addr × Addr)} {ys : List Value} (c : CInv h₀ L m base X D n ts ys h) : Fr h₀ L h m := by
  obtain ⟨objs, F, N, off, t⟩ := c; exact F
theorem CInv.base {h₀ h : Heap} {L : Addr} {m : Str → Option Value} {base : List (Addr × Obj)} {X : List Addr} {D : Addr} {n : Nat} {ts : List (Addr × Addr × Addr)} {ys : List Value} (c : CInv h₀ L m base X D n ts ys h) : ∀ p ∈ base, p ∈ every h₀ h L ∧ p.1 ∉ X := fun p hp => by
  obtain ⟨objs, F, N, off, t⟩ := c; exact ⟨every_of N p (List.mem_append_left _ hp), off p (List.mem_append_left _ hp)⟩
noncomputable abbrev LC10 (w : World) : Expr := .ListComp (lcElt (lc10 w)) (lcGens (lc10 w)) (lcScope (lc10 w)) (lcPos (lc10 w))
theorem lc10_eq (w : World) : lc10 w = LC10 w := rfl
theorem lc10_g0 (w : World) : ∃ p, (lcGens (lc10 w))[0]? = some ⟨.Name (Str.ofString "x") p, lcIter (lc10 w) 0, [], 0⟩ := ⟨_, rfl⟩
theorem lc10_g1 (w : World) : ∃ p, (lcGens (lc10 w))[1]? = some ⟨.Name (Str.ofString "y") p, lcIter (lc10 w) 1, [], 0⟩ := ⟨_, rfl⟩
theorem lc10_g2 (w : World) : ∃ p, (lcGens (lc10 w))[2]? = some ⟨.Name (Str.ofString "z") p, lcIter (lc10 w) 2, [lcIf (lc10 w) 2], 0⟩ := ⟨_, rfl⟩
theorem lc10_g3 (w : World) : (lcGens (lc10 w))[3]? = none := rfl
set_option maxHeartbeats 8000000 in
/-- the innermost clause -/
theorem comp10_z (w : World) (mean mg mb) {h₀ : Heap} {L aL : Addr} {cd : Value} {m m₂ : Str → Option Value} {base : List (Addr × Obj)} {X : List Addr} {C D I q : Addr} {k : Nat} {z1 z2 z3 : PA} {x y : PA} {n : Nat} {ts : List (Addr × Addr × Addr)} {ys : List Value} {s : Shared} {R : Result → Shared → Prop}
    (B : Below callerA h₀ [] h₀) (XF : (Mine.hd.heap_1 w.params).In h₀) (T : Top VW LO mean mg mb h₀)
    (px : PIn base x) (py : PIn base y) (mq : (q, ({ cls := .type "list", data := .seq #[.ref z1.1, .ref z2.1, .ref z3.1] k } : Obj)) ∈ base) (p1 : PIn base z1) (p2 : PIn base z2) (p3 : PIn base z3)
    (hIX : I ∈ X) (hCX : C ∈ X) (hDX : D ∈ X) (hLX : L ∉ X) (hX : ∀ a ∈ X, h₀.get? a = none) (hXl : ∀ a ∈ X, ∃ o, s.heap.get? a = some o) (hIC : I ≠ C) (hID : I ≠ D) (hCD : C ≠ D) (hn27 : n ≤ 24)
    (hit : s.heap.IsListIter I q 0) (hn : s.heap.Ns C m₂) (hmx : m₂ "x" = some (.ref x.1)) (hmy : m₂ "y" = some (.ref y.1)) (hD : s.heap.get? D = some (lst ys)) (hI : CInv h₀ L m base X D n ts ys s.heap)
    (done : ∀ h tk m₃ ys', h.Ns C m₃ → m₃ "x" = some (.ref x.1) → h.get? D = some (lst ys') → CInv h₀ L m base X D (n + 3) (stepY [z1, z2, z3] x ts y) ys' h → (∀ b o, b ≠ C → b ≠ D → b ≠ L → b ≠ I → s.heap.get? b = some o → h.get? b = some o) → R (.ok .next) { s with heap := h, toks := tk }) :
    codeAny (model PySem.Challenge.rw_pg0251_01.row.prog w) (lawA w L aL cd) (.compLoop (LC10 w) 2 (.ref I) (.ref D) (cE10 w L aL cd C)) R s := by
  obtain ⟨pz, hg⟩ := lc10_g2 w
  have hqX : q ∉ X := (hI.base _ mq).2
  have hqL : q ≠ L := by obtain ⟨objs, _, N, _, _⟩ := id hI; exact (N _ (List.mem_append_left _ mq)).2.1
  have hIL : I ≠ L := fun e => hLX (e ▸ hIX)
  have hCL : C ≠ L := fun e => hLX (e ▸ hCX)
  have hDL : D ≠ L := fun e => hLX (e ▸ hDX)
  have hls : s.heap.IsList q #[.ref z1.1, .ref z2.1, .ref z3.1] := by obtain ⟨objs, _, N, _, _⟩ := id hI; exact ⟨_, (N _ (List.mem_append_left _ mq)).1, rfl, _, rfl⟩
  refine kn_last (n := 3) hg (lc10_g3 w) (Walks.list (by rfl) I q (fun e => hqX (e ▸ hIX)) #[.ref z1.1, .ref z2.1, .ref z3.1]) (by rfl) (by rfl) (Ne.symm hCD) ?hDf ?hCf (Lx := L) ?hLf (Ne.symm hCL) (Ne.symm hDL)
    (fun i m₃ ys h => CInv h₀ L m base X D (n + i) (([z1, z2, z3].take i).foldl (stepZ x y) ts) ys h ∧ m₃ "x" = some (.ref x.1) ∧ m₃ "y" = some (.ref y.1)) ?hfr ?hlen ?step ⟨hit, hls⟩ hn hD ⟨hI, hmx, hmy⟩ ?done
  case hDf => intro e; rcases List.mem_cons.mp e with e | e; exact hID e.symm; exact hqX ((List.mem_singleton.mp e) ▸ hDX)
  case hCf => intro e; rcases List.mem_cons.mp e with e | e; exact hIC e.symm; exact hqX ((List.mem_singleton.mp e) ▸ hCX)
  case hLf => intro e; rcases List.mem_cons.mp e with e | e; exact hIL e.symm; exact hqL (List.mem_singleton.mp e).symm
  case hfr =>
    rintro i m₃ ys h h' ⟨c, e1, e2⟩ hk
    exact ⟨c.keep hLX hX fun b o hb e => hk b o (fun q => hb (q ▸ hCX)) (fun q => hb (q ▸ hDX)) (fun q => hb ((List.mem_singleton.mp q) ▸ hIX)) e, e1, e2⟩
  case hlen =>
    rintro i m₃ ys h ⟨c, _, _⟩ hi
    obtain ⟨objs, _, _, _, t⟩ := c
    have h1 := t.1.len
    have h2 := t.2
    rw [h1]; exact Nat.le_trans h2 (Nat.le_trans (show n + i ≤ 27 by omega) (Nat.le_of_ble_eq_true rfl))
  case done =>
    rintro h tk m₃ ys' hn' hD' ⟨c, e1, e2⟩ hk
    exact done h tk m₃ ys' hn' e1 hD' c fun b o h1 h2 h3 h4 e => hk b o h1 h2 h3 (by simpa using h4) e
  case step =>
    rintro i v h tk m₃ ys' E' hi hv hn' hD' hst ⟨c, e1, e2⟩ hk
    have live : ∀ a ∈ X, ∃ o, h.get? a = some o := fun a ha => by
      obtain ⟨o, e⟩ := hXl a ha
      by_cases a1 : a = C
      · obtain ⟨o, _, _, e, _⟩ := hn'; exact ⟨o, a1 ▸ e⟩
      by_cases a2 : a = D
      · exact ⟨_, a2 ▸ hD'⟩
      by_cases a3 : a = I
      · obtain ⟨⟨o, e, _⟩, _⟩ := hst; exact ⟨o, a3 ▸ e⟩
      · exact ⟨o, hk a o a1 a2 (fun q => hLX (q ▸ ha)) (by simpa using a3) e⟩
    have pick : ∃ z : PA, v = .ref z.1 ∧ PIn base z ∧ stepZ x y (([z1, z2, z3].take i).foldl (stepZ x y) ts) z = ([z1, z2, z3].take (i + 1)).foldl (stepZ x y) ts := by
      match i, hi with
      | 0, _ => exact ⟨z1, (Option.some.inj hv).symm, p1, rfl⟩
      | 1, _ => exact ⟨z2, (Option.some.inj hv).symm, p2, rfl⟩
      | 2, _ => exact ⟨z3, (Option.some.inj hv).symm, p3, rfl⟩
    obtain ⟨z, hv, pz', hst'⟩ := pick
    have f1 : (fun u => if u = Str.ofString "z" then some v else m₃ u) "x" = some (.ref x.1) := (if_neg (by decide)).trans e1
    have f2 : (fun u => if u = Str.ofString "z" then some v else m₃ u) "y" = some (.ref y.1) := (if_neg (by decide)).trans e2
    have f3 : (fun u => if u = Str.ofString "z" then some v else m₃ u) "z" = some (.ref z.1) := (if_pos rfl).trans (congrArg some hv)
    obtain ⟨oC, heC, hoC⟩ := ns_obj hn'
    have F := c.fr
    have bs := fun p hp => (c.base p hp).1
    obtain ⟨⟨ha1, hb1, hc1⟩, t1, t2, t3, mx⟩ := px
    obtain ⟨⟨ha2, hb2, hc2⟩, t4, t5, t6, my⟩ := py
    obtain ⟨⟨ha3, hb3, hc3⟩, t7, t8, t9, mz⟩ := pz'
    have NC : ∀ h' : Heap, h'.get? C = some oC → ∀ l, News h₀ L h' l → News h₀ L h' ((C, oC) :: l) := fun h' e l N p hp => by
      rcases List.mem_cons.mp hp with rfl | hp
      · exact ⟨e, hCL, hX _ hCX⟩
      · exact N p hp
    refine wpAny_tests_one ?_
    refine test10 w mean mg mb h₀ L aL cd m _ C oC x.1 y.1 z.1 _ _ _ _ _ _ _ _ _ _ _ _ _ _ _ _ _ _ (every h₀ h L) hoC f1 f2 f3 ha1 hb1 hc1 ha2 hb2 hc2 ha3 hb3 hc3 (bs _ mx) (bs _ my) (bs _ mz) _ _ _ B XF T F (NC h heC _ every_news) fun h₃ tk₃ F₃ N₃ => ?_
    have K3 := every_kept F F₃ N₃ fun p hp => .tail _ hp
    have c3 := c.re F₃ K3
    refine ⟨h₃, tk₃, rfl, K3, ?_⟩
    cases hc : canB x.2.1 x.2.2.1 x.2.2.2 y.2.1 y.2.2.1 y.2.2.2 z.2.1 z.2.2.1 z.2.2.2 with
    | false =>
      rw [if_neg (by decide)]
      refine ⟨?_, f1, f2⟩
      obtain ⟨objs, F4, N4, off4, t4⟩ := c3
      refine ⟨objs, F4, N4, off4, ?_⟩
      rw [← hst']; unfold stepZ cB addIf
      rw [hc, if_neg (by decide)]
      exact ⟨t4.1, Nat.le_succ_of_le t4.2⟩
    | true =>
      rw [if_pos rfl]
      refine elt10 w mean mg mb h₀ L aL cd m _ C oC x.1 y.1 z.1 (every h₀ h₃ L) hoC f1 f2 f3 _ _ _ B XF T F₃ (NC h₃ (K3 _ _ hCL heC) _ every_news) fun Dn h₄ tk₄ F₄ N₄ ne => ?_
      have K4 := every_kept F₃ F₄ N₄ fun p hp => .tail _ (.tail _ hp)
      have c4 := c3.re F₄ K4
      have fresh : ∀ a ∈ X, a ≠ Dn := fun a ha => by
        obtain ⟨o, e⟩ := live a ha
        exact ne (a, o) (.tail _ (every_mem (K3 _ _ (fun q => hLX (q ▸ ha)) e) (hX a ha) fun q => hLX (q ▸ ha)))
      refine ⟨h₄, tk₄, rfl, K4, ?_, f1, f2⟩
      obtain ⟨objs, F5, N5, off5, t5⟩ := c4
      have hDn := N₄ _ (.head _)
      refine ⟨objs ++ [(Dn, xyzO (x.1, y.1, z.1))], F5, fun p hp => ?_, fun p hp => ?_, ?_⟩
      · rw [← List.append_assoc] at hp
        rcases List.mem_append.mp hp with hp | hp
        · exact N5 p hp
        · rw [List.mem_singleton.mp hp]; exact hDn
      · rw [← List.append_assoc] at hp
        rcases List.mem_append.mp hp with hp | hp
        · exact off5 p hp
        · rw [List.mem_singleton.mp hp]; exact fun q => fresh _ q rfl
      · rw [← hst']; unfold stepZ cB addIf
        rw [hc, if_pos rfl]
        exact ⟨t5.1.snoc (Ne.symm (fresh _ hDX)), by rw [List.length_append]; exact Nat.succ_le_succ t5.2⟩
theorem CInv.up {h₀ h h' : Heap} {L : Addr} {m : Str → Option Value} {base : List (Addr × Obj)} {X : List Addr} {D : Addr} {n : Nat} {ts : List (Addr × Addr × Addr)} {ys : List Value} (c : CInv h₀ L m base X D n ts ys h) (hk : ∀ b o, h.get? b = some o → h'.get? b = some o) : CInv h₀ L m base X D n ts ys h' := by
  obtain ⟨objs, F, N, off, t⟩ := c
  exact ⟨objs, F.keeps hk, fun p hp => ⟨hk _ _ (N p hp).1, (N p hp).2⟩, off, t⟩
theorem get_size (h : Heap) : h.get? h.objs.size = none := by
  cases e : h.get? h.objs.size with
  | none => rfl
  | some o => exact absurd (Heap.lt_size e) (Nat.lt_irrefl _)
theorem new_none {h₀ h : Heap} {L : Addr} {m : Str → Option Value} (F : Fr h₀ L h m) {a : Addr} (e : h.get? a = none) : h₀.get? a = none := by
  cases e0 : h₀.get? a with
  | none => rfl
  | some o => rw [F.keep _ _ e0] at e; cases e
set_option maxHeartbeats 8000000 in
/-- the clause between -/
theorem comp10_y (w : World) (mean mg mb) {h₀ : Heap} {L aL : Addr} {cd : Value} {m m₂ : Str → Option Value} {base : List (Addr × Obj)} {X : List Addr} {C D I q1 q q3 pt : Addr} {k kt : Nat} {y1 y2 y3 : PA} {Z : List PA} {x : PA} {n : Nat} {ts : List (Addr × Addr × Addr)} {ys : List Value} {oP : Obj} {s : Shared} {R : Result → Shared → Prop}
    (B : Below callerA h₀ [] h₀) (XF : (Mine.hd.heap_1 w.params).In h₀) (T : Top VW LO mean mg mb h₀)
    (hP : oP.data = .cell (some (.ref pt))) (mP : (L + 1, oP) ∈ base) (mt : (pt, ({ cls := .type "list", data := .seq #[.ref q1, .ref q, .ref q3] kt } : Obj)) ∈ base)
    (px : PIn base x) (pz : PotIn base q3 Z) (mq : (q, ({ cls := .type "list", data := .seq #[.ref y1.1, .ref y2.1, .ref y3.1] k } : Obj)) ∈ base) (p1 : PIn base y1) (p2 : PIn base y2) (p3 : PIn base y3)
    (hIX : I ∈ X) (hCX : C ∈ X) (hDX : D ∈ X) (hLX : L ∉ X) (hX : ∀ a ∈ X, h₀.get? a = none) (hXl : ∀ a ∈ X, ∃ o, s.heap.get? a = some o) (hIC : I ≠ C) (hID : I ≠ D) (hCD : C ≠ D) (hn27 : n ≤ 18)
    (hit : s.heap.IsListIter I q 0) (hn : s.heap.Ns C m₂) (hmx : m₂ "x" = some (.ref x.1)) (hD : s.heap.get? D = some (lst ys)) (hI : CInv h₀ L m base X D n ts ys s.heap)
    (done : ∀ h tk m₃ ys', h.Ns C m₃ → h.get? D = some (lst ys') → CInv h₀ L m base X D (n + 9) (stepX [y1, y2, y3] Z ts x) ys' h → (∀ b o, b ≠ C → b ≠ D → b ≠ L → b ≠ I → s.heap.get? b = some o → h.get? b = some o) → R (.ok .next) { s with heap := h, toks := tk }) :
    codeAny (model PySem.Challenge.rw_pg0251_01.row.prog w) (lawA w L aL cd) (.compLoop (LC10 w) 1 (.ref I) (.ref D) (cE10 w L aL cd C)) R s := by
  obtain ⟨pp, hg⟩ := lc10_g1 w
  obtain ⟨pp', hg2⟩ := lc10_g2 w
  obtain ⟨k3, z1, z2, z3, rfl, mq3, z1p, z2p, z3p⟩ := pz
  have hqX : q ∉ X := (hI.base _ mq).2
  have hqL : q ≠ L := by obtain ⟨objs, _, N, _, _⟩ := id hI; exact (N _ (List.mem_append_left _ mq)).2.1
  have hIL : I ≠ L := fun e => hLX (e ▸ hIX)
  have hCL : C ≠ L := fun e => hLX (e ▸ hCX)
  have hDL : D ≠ L := fun e => hLX (e ▸ hDX)
  have hls : s.heap.IsList q #[.ref y1.1, .ref y2.1, .ref y3.1] := by obtain ⟨objs, _, N, _, _⟩ := id hI; exact ⟨_, (N _ (List.mem_append_left _ mq)).1, rfl, _, rfl⟩
  refine kn_mid (n := 3) hg hg2 (Walks.list (by rfl) I q (fun e => hqX (e ▸ hIX)) #[.ref y1.1, .ref y2.1, .ref y3.1]) (by rfl) (by rfl) (Ne.symm hCD) ?hDf ?hCf (Lx := L) ?hLf (Ne.symm hCL) (Ne.symm hDL)
    (fun i m₃ ys h => CInv h₀ L m base X D (n + 3 * i) (([y1, y2, y3].take i).foldl (stepY [z1, z2, z3] x) ts) ys h ∧ m₃ "x" = some (.ref x.1)) ?hfr ?step ⟨hit, hls⟩ hn hD ⟨hI, hmx⟩ ?done (by intro _; rfl)
  case hDf => intro e; rcases List.mem_cons.mp e with e | e; exact hID e.symm; exact hqX ((List.mem_singleton.mp e) ▸ hDX)
  case hCf => intro e; rcases List.mem_cons.mp e with e | e; exact hIC e.symm; exact hqX ((List.mem_singleton.mp e) ▸ hCX)
  case hLf => intro e; rcases List.mem_cons.mp e with e | e; exact hIL e.symm; exact hqL (List.mem_singleton.mp e).symm
  case hfr =>
    rintro i m₃ ys h h' ⟨c, e1⟩ hk
    exact ⟨c.keep hLX hX fun b o hb e => hk b o (fun q => hb (q ▸ hCX)) (fun q => hb (q ▸ hDX)) (fun q => hb ((List.mem_singleton.mp q) ▸ hIX)) e, e1⟩
  case done =>
    rintro h tk m₃ ys' hn' hD' ⟨c, e1⟩ hk
    exact done h tk m₃ ys' hn' hD' c fun b o h1 h2 h3 h4 e => hk b o h1 h2 h3 (by simpa using h4) e
  case step =>
    rintro i v h tk m₃ ys' E' hi hv hn' hD' hst ⟨c, e1⟩ hk
    have live : ∀ a ∈ X, ∃ o, h.get? a = some o := fun a ha => by
      obtain ⟨o, e⟩ := hXl a ha
      by_cases a1 : a = C
      · obtain ⟨o, _, _, e, _⟩ := hn'; exact ⟨o, a1 ▸ e⟩
      by_cases a2 : a = D
      · exact ⟨_, a2 ▸ hD'⟩
      by_cases a3 : a = I
      · obtain ⟨⟨o, e, _⟩, _⟩ := hst; exact ⟨o, a3 ▸ e⟩
      · exact ⟨o, hk a o a1 a2 (fun q => hLX (q ▸ ha)) (by simpa using a3) e⟩
    have pick : ∃ y : PA, v = .ref y.1 ∧ PIn base y ∧ stepY [z1, z2, z3] x (([y1, y2, y3].take i).foldl (stepY [z1, z2, z3] x) ts) y = ([y1, y2, y3].take (i + 1)).foldl (stepY [z1, z2, z3] x) ts := by
      match i, hi with
      | 0, _ => exact ⟨y1, (Option.some.inj hv).symm, p1, rfl⟩
      | 1, _ => exact ⟨y2, (Option.some.inj hv).symm, p2, rfl⟩
      | 2, _ => exact ⟨y3, (Option.some.inj hv).symm, p3, rfl⟩
    obtain ⟨y, hv, py, hst'⟩ := pick
    have f1 : (fun u => if u = Str.ofString "y" then some v else m₃ u) "x" = some (.ref x.1) := (if_neg (by decide)).trans e1
    have f2 : (fun u => if u = Str.ofString "y" then some v else m₃ u) "y" = some (.ref y.1) := (if_pos rfl).trans (congrArg some hv)
    obtain ⟨oC, heC, hoC⟩ := ns_obj hn'
    have F := c.fr
    have bs := fun p hp => (c.base p hp).1
    have NC : News h₀ L h ((C, oC) :: every h₀ h L) := fun p hp => by
      rcases List.mem_cons.mp hp with rfl | hp
      · exact ⟨heC, hCL, hX _ hCX⟩
      · exact every_news p hp
    refine it10_2 w mean mg mb h₀ L aL cd m _ C pt q1 q q3 oC oP kt (every h₀ h L) hoC hP (bs _ mP) (bs _ mt) _ _ _ B XF T F NC fun h₃ tk₃ F₃ N₃ => ?_
    have K3 := every_kept F F₃ N₃ fun p hp => .tail _ hp
    have c3 := c.re F₃ K3
    have hl3 : h₃.IsList q3 #[.ref z1.1, .ref z2.1, .ref z3.1] := by obtain ⟨objs, _, N, _, _⟩ := id c3; exact ⟨_, (N _ (List.mem_append_left _ mq3)).1, rfl, _, rfl⟩
    refine wpAny_pyIter_list hl3 ?_
    dsimp only
    have up : ∀ b o, h₃.get? b = some o → (h₃.push { cls := .type "list_iterator", data := .fields #[.ref q3, .int 0 0] }).get? b = some o := fun b o e => Heap.get?_push_of_some _ e
    have hit5 : (h₃.push { cls := .type "list_iterator", data := .fields #[.ref q3, .int 0 0] }).IsListIter h₃.objs.size q3 0 := ⟨_, Heap.get?_push_size _ rfl, rfl, rfl⟩
    have hl5 := hl3.at fun o e => up _ o e
    generalize h₃.push { cls := .type "list_iterator", data := .fields #[.ref q3, .int 0 0] } = h₅ at up hit5 hl5 ⊢
    have lt3 : ∀ a ∈ X, a ≠ h₃.objs.size := fun a ha => by
      obtain ⟨o, e⟩ := live a ha
      exact Nat.ne_of_lt (Heap.lt_size (K3 _ _ (fun q => hLX (q ▸ ha)) e))
    have lq3 : q3 ≠ h₃.objs.size := by obtain ⟨o, e, _⟩ := hl3; exact Nat.ne_of_lt (Heap.lt_size e)
    have loop : ∀ tk, codeAny (model PySem.Challenge.rw_pg0251_01.row.prog w) (lawA w L aL cd) (.compLoop (LC10 w) 2 (.ref h₃.objs.size) (.ref D) (cE10 w L aL cd C)) (fun r s₆ => ∃ f h₆ tk₆ m₆ ys₆, r = .ok f ∧ s₆ = { s with heap := h₆, toks := tk₆ } ∧ (∀ b o, b ≠ C → b ≠ D → b ≠ L → h.get? b = some o → h₆.get? b = some o) ∧ h₆.Ns C m₆ ∧ h₆.get? D = some (lst ys₆) ∧
        (CInv h₀ L m base X D (n + 3 * (i + 1)) (([y1, y2, y3].take (i + 1)).foldl (stepY [z1, z2, z3] x) ts) ys₆ h₆ ∧ m₆ "x" = some (.ref x.1))) { s with heap := h₅, toks := tk } := fun tk => by
      refine comp10_z w mean mg mb (X := h₃.objs.size :: X) (s := { s with heap := h₅, toks := tk }) B XF T px py mq3 z1p z2p z3p (.head _) (.tail _ hCX) (.tail _ hDX) ?_ ?_ ?_ (Ne.symm (lt3 _ hCX)) (Ne.symm (lt3 _ hDX)) hCD (show n + 3 * i ≤ 24 by omega) hit5 (hn'.at' fun o e => up _ o (K3 _ _ hCL e)) f1 f2 (up _ _ (K3 _ _ hDL hD')) ((c3.add (get_size h₃)).up up) fun h₆ tk₆ m₆ ys₆ n6 e6 d6 c6 k6 => ?_
      · intro q
        rcases List.mem_cons.mp q with q | q
        · exact absurd F₃.ns.lt (q ▸ Nat.lt_irrefl _)
        · exact hLX q
      · intro a ha
        rcases List.mem_cons.mp ha with rfl | ha
        · exact new_none F₃ (get_size h₃)
        · exact hX a ha
      · intro a ha
        rcases List.mem_cons.mp ha with rfl | ha
        · obtain ⟨o, e, _⟩ := hit5; exact ⟨o, e⟩
        · obtain ⟨o, e⟩ := live a ha
          exact ⟨o, up _ _ (K3 _ _ (fun q => hLX (q ▸ ha)) e)⟩
      · refine ⟨_, h₆, tk₆, m₆, ys₆, rfl, rfl, fun b o h1 h2 h3 e => ?_, n6, d6, ?_, e6⟩
        · have e3 := K3 b o h3 e
          exact k6 b o h1 h2 h3 (Nat.ne_of_lt (Heap.lt_size e3)) (up _ _ e3)
        · rw [← hst']; exact c6.drop fun a ha => .tail _ ha
    exact kn_start hg2 (loop _) ((Walks.list (by rfl) h₃.objs.size q3 lq3 #[.ref z1.1, .ref z2.1, .ref z3.1]).self 0 _ _ _ ⟨hit5, hl5⟩ (loop _))
end
section
open PyProof.Rows.LCg
/-- what a source of turns gives -/
noncomputable def Source (prog : Program) (w : World) (A : Around) (xv : Value) (h : Heap) (n : Nat) (P0 : Nat → Value → Prop) (fpx : List Addr) : Prop :=
  (∀ a ∈ fpx, ∃ o, h.get? a = some o) ∧ ∀ (s : Shared) (Q E : Value → Shared → Prop), s.heap = h →
    (∀ (o : Obj) (St : Nat → Heap → Prop), Walks prog w A h.objs.size (h.objs.size :: fpx) [h.objs.size] n P0 St → (∀ i h', St i h' → ∃ o, h'.get? h.objs.size = some o) → St 0 (h.push o) → Q (.ref h.objs.size) { s with heap := h.push o }) → wpAny (model prog w) A (pyIter xv) Q E s
section
variable {prog : Program} {w : World} {A : Around} {h : Heap}
theorem Source.list {ax : Addr} {items : Array Value} (hh : A.handled = none) (hl : h.IsList ax items) : Source prog w A (.ref ax) h items.size (fun i v => items[i]? = some v) [ax] := by
  obtain ⟨o, e, _⟩ := id hl
  refine ⟨fun a ha => by rw [List.mem_singleton.mp ha]; exact ⟨o, e⟩, fun s Q E hs k => ?_⟩
  subst hs
  refine wpAny_pyIter_list hl (k _ _ (Walks.list hh _ ax (Nat.ne_of_lt (Heap.lt_size e)) items) (fun i h' st => by obtain ⟨⟨o, e, _⟩, _⟩ := st; exact ⟨o, e⟩) ⟨⟨_, Heap.get?_push_size _ rfl, rfl, rfl⟩, hl.push _⟩)
theorem Source.tuple {ax : Addr} {items : Array Value} (hh : A.handled = none) (hl : h.IsTuple ax items) : Source prog w A (.ref ax) h items.size (fun i v => items[i]? = some v) [ax] := by
  obtain ⟨o, e, _⟩ := id hl
  refine ⟨fun a ha => by rw [List.mem_singleton.mp ha]; exact ⟨o, e⟩, fun s Q E hs k => ?_⟩
  subst hs
  refine wpAny_pyIter_tuple hl (k _ _ (Walks.tuple hh _ ax (Nat.ne_of_lt (Heap.lt_size e)) items) (fun i h' st => by obtain ⟨⟨o, e, _⟩, _⟩ := st; exact ⟨o, e⟩) ⟨⟨_, Heap.get?_push_size _ rfl, rfl, rfl⟩, hl.at fun o e => Heap.get?_push_of_some _ e⟩)
theorem Source.range {r : Addr} {a b : Int} {t u v : Tok} {n : Nat} (hh : A.handled = none) (hr : IsRange h r a b 1 t u v) (hsm : Builtin.Range.small a b 1 = true) (hn : Builtin.Range.rangeSize a b 1 = ((n : Nat) : Int)) : Source prog w A (.ref r) h n (fun i v => ∃ t, v = .int (a + (i : Int)) t) [] := by
  refine ⟨(fun a ha => nomatch ha), fun s Q E hs k => ?_⟩
  subst hs
  refine wpAny_pyIter_range hr hsm (k _ _ (range_walks hh a n) (fun i h' st => ⟨_, st⟩) ?_)
  show IsRangeIter _ _ _ _ _
  rw [hn]; simpa using Heap.get?_push_size _ rfl
end
/-- what a comprehension's turns have made -/
inductive Made (P : Nat → Value → List (Addr × Obj) → Prop) : Nat → List Value → List (Addr × Obj) → Prop
  | nil : Made P 0 [] []
  | snoc {i : Nat} {ys : List Value} {objs no : List (Addr × Obj)} {y : Value} : Made P i ys objs → P i y no → Made P (i + 1) (ys ++ [y]) (objs ++ no)
theorem Made.len {P : Nat → Value → List (Addr × Obj) → Prop} {i : Nat} {ys : List Value} {objs : List (Addr × Obj)} (h : Made P i ys objs) : ys.length = i := by
  induction h with
  | nil => rfl
  | snoc _ _ ih => rw [List.length_append, List.length_singleton, ih]
/-- one turn of a comprehension: its element -/
noncomputable def EltTurn (prog : Program) (w : World) (A : Around) (h₀ : Heap) (L : Addr) (m : Str → Option Value) (base : List (Addr × Obj)) (elt : Expr) (x : Str) (scope : Scope) (cl : List (Str × Addr)) (env : Env) (s : Shared) (P : Value → List (Addr × Obj) → Prop) (v : Value) : Prop :=
  ∀ C oC m₂ h tk led (E' : Value → Shared → Prop), NsObj oC m₂ → m₂ x = some v → Fr h₀ L h m → News h₀ L h ((C, oC) :: led) → (∀ p ∈ base, p ∈ led) → (∀ p ∈ base, p.1 ≠ C) →
    wpAny (model prog w) A (eval elt (compEnvC scope cl C env)) (fun y s' => ∃ no h' tk', s' = { s with heap := h', toks := tk' } ∧ Fr h₀ L h' m ∧ News h₀ L h' (no ++ (C, oC) :: led) ∧ (∀ q ∈ no, ∀ p ∈ (C, oC) :: led, p.1 ≠ q.1) ∧ P y no) E' { s with heap := h, toks := tk }
/-- what a comprehension's body leaves -/
noncomputable def GInv (h₀ : Heap) (L : Addr) (m : Str → Option Value) (base : List (Addr × Obj)) (X : List Addr) (objs : List (Addr × Obj)) (h : Heap) : Prop := Fr h₀ L h m ∧ News h₀ L h (base ++ objs) ∧ ∀ p ∈ base ++ objs, p.1 ∉ X
theorem GInv.keep {h₀ h h' : Heap} {L : Addr} {m : Str → Option Value} {base objs : List (Addr × Obj)} {X : List Addr} (c : GInv h₀ L m base X objs h) (hL : L ∉ X) (hX : ∀ a ∈ X, h₀.get? a = none)
    (hk : ∀ b o, b ∉ X → h.get? b = some o → h'.get? b = some o) : GInv h₀ L m base X objs h' := by
  obtain ⟨F, N, off⟩ := c
  exact ⟨⟨F.ns.at' fun o e => hk _ o hL e, fun b o e => hk b o (fun q => by rw [hX b q] at e; cases e) (F.keep b o e), F.above⟩, fun p hp => ⟨hk _ _ (off p hp) (N p hp).1, (N p hp).2⟩, off⟩
section
variable {prog : Program} {w : World} {A : Around} {s : Shared} {E : Value → Shared → Prop} {env : Env} {elt iter : Expr} {x : Str} {px : Pos} {scope : Scope} {cl : List (Str × Addr)} {pos : Pos} {h₀ : Heap} {L : Addr} {m : Str → Option Value}
/-- a comprehension of one clause, its head made already -/
theorem one_start {h h₂ : Heap} {o : Obj} {tk : Nat} {base : List (Addr × Obj)} {C D : Addr} {n : Nat} {P0 : Nat → Value → Prop} {fpx : List Addr} {St : Nat → Heap → Prop} {P : Nat → Value → List (Addr × Obj) → Prop} {R : Result → Shared → Prop} (hsz : n ≤ sizeLine)
    (F : Fr h₀ L h₂ m) (N : News h₀ L h₂ base) (hfx : ∀ a ∈ fpx, (∃ o, h₂.get? a = some o) ∧ a ≠ L) (W : Walks prog w A h₂.objs.size (h₂.objs.size :: fpx) [h₂.objs.size] n P0 St) (hlive : ∀ i h', St i h' → ∃ o, h'.get? h₂.objs.size = some o) (st0 : St 0 (h₂.push o))
    (hkind : scope.kind = .function) (hx : scope.names.lookup x = some .local)
    (hDe : D = (h₂.push o).objs.size) (hCe : C = (h₂.push o).objs.size + 1) (up : ∀ b o', (h₂.push o).get? b = some o' → h.get? b = some o') (hn : h.Ns C (fun _ => none)) (hD : h.get? D = some (lst []))
    (turn : ∀ i v, i < n → P0 i v → EltTurn prog w A h₀ L m base elt x scope cl env s (P i) v)
    (done : ∀ h' tk' m' ys objs, h'.Ns C m' → C ≠ D → C ≠ L → h₀.get? C = none → D ≠ L → h₀.get? D = none → Fr h₀ L h' m → News h₀ L h' ((D, lst ys) :: (base ++ objs)) → (∀ p ∈ (D, lst ys) :: (base ++ objs), p.1 ≠ C) → (∀ p ∈ base ++ objs, p.1 ≠ D) → Made P n ys objs → R (.ok .next) { s with heap := h', toks := tk' }) :
    codeAny (model prog w) A (.compStart (.ListComp elt [⟨.Name x px, iter, [], 0⟩] scope pos) 0 (.ref h₂.objs.size) (.ref D) (compEnvC scope cl C env)) R { s with heap := h, toks := tk } := by
  have sz2 : (h₂.push o).objs.size = h₂.objs.size + 1 := Heap.size_push ..
  rw [sz2] at hDe hCe
  have hg : [(⟨.Name x px, iter, [], 0⟩ : Comprehension)][0]? = some ⟨.Name x px, iter, [], 0⟩ := rfl
  have hID : h₂.objs.size ≠ D := hDe ▸ Nat.ne_of_lt (Nat.lt_succ_self _)
  have hIC : h₂.objs.size ≠ C := hCe ▸ Nat.ne_of_lt (Nat.lt_succ_of_lt (Nat.lt_succ_self _))
  have hCD : C ≠ D := by rw [hCe, hDe]; exact Nat.ne_of_gt (Nat.lt_succ_self _)
  have lt1 : ∀ b o, h₂.get? b = some o → b ≠ h₂.objs.size ∧ b ≠ D ∧ b ≠ C := fun b o e => by
    have h1 := Heap.lt_size e
    exact ⟨Nat.ne_of_lt h1, hDe ▸ Nat.ne_of_lt (Nat.lt_succ_of_lt h1), hCe ▸ Nat.ne_of_lt (Nat.lt_succ_of_lt (Nat.lt_succ_of_lt h1))⟩
  have n1 : ∀ a, h₂.objs.size ≤ a → h₂.get? a = none := fun a ha => by
    cases e : h₂.get? a with
    | none => rfl
    | some o => exact absurd (Heap.lt_size e) (Nat.not_lt.mpr ha)
  have up1 : ∀ b o, h₂.get? b = some o → h.get? b = some o := fun b o e => up _ _ (Heap.get?_push_of_some _ e)
  have hLX : L ∉ [h₂.objs.size, C, D] := by
    obtain ⟨o, _, _, e, _⟩ := id F.ns
    have := lt1 _ _ e
    intro ha
    rcases List.mem_cons.mp ha with ha | ha
    · exact this.1 ha
    rcases List.mem_cons.mp ha with ha | ha
    · exact this.2.2 ha
    · exact this.2.1 (List.mem_singleton.mp ha)
  have hX : ∀ a ∈ [h₂.objs.size, C, D], h₀.get? a = none := fun a ha => new_none F (n1 a (by
    rcases List.mem_cons.mp ha with rfl | ha
    · exact Nat.le_refl _
    rcases List.mem_cons.mp ha with rfl | ha
    · rw [hCe]; exact Nat.le_succ_of_le (Nat.le_succ _)
    · rw [List.mem_singleton.mp ha, hDe]; exact Nat.le_succ _))
  have st1 : St 0 h := W.frame _ _ _ st0 fun b _ o e => up b o e
  have c0 : GInv h₀ L m base [h₂.objs.size, C, D] [] h := by
    refine ⟨F.keeps up1, fun p hp => ?_, fun p hp ha => ?_⟩
    · rw [List.append_nil] at hp; exact ⟨up1 _ _ (N p hp).1, (N p hp).2⟩
    · rw [List.append_nil] at hp
      have := lt1 _ _ (N p hp).1
      rcases List.mem_cons.mp ha with ha | ha
      · exact this.1 ha
      rcases List.mem_cons.mp ha with ha | ha
      · exact this.2.2 ha
      · exact this.2.1 (List.mem_singleton.mp ha)
  have fpX : ∀ a ∈ fpx, a ≠ C ∧ a ≠ D := fun a ha => by
    obtain ⟨⟨o, e⟩, _⟩ := hfx a ha
    exact ⟨(lt1 _ _ e).2.2, (lt1 _ _ e).2.1⟩
  generalize hX0 : [h₂.objs.size, C, D] = X at hLX hX c0
  have hIX : h₂.objs.size ∈ X := hX0 ▸ .head _
  have hCX : C ∈ X := hX0 ▸ .tail _ (.head _)
  have hDX : D ∈ X := hX0 ▸ .tail _ (.tail _ (.head _))
  have hX3 : ∀ a ∈ X, a = h₂.objs.size ∨ a = C ∨ a = D := fun a ha => by
    rw [← hX0] at ha
    rcases List.mem_cons.mp ha with ha | ha
    · exact .inl ha
    rcases List.mem_cons.mp ha with ha | ha
    · exact .inr (.inl ha)
    · exact .inr (.inr (List.mem_singleton.mp ha))
  have hIL : h₂.objs.size ≠ L := fun e => hLX (e ▸ hIX)
  have hCL : C ≠ L := fun e => hLX (e ▸ hCX)
  have hDL : D ≠ L := fun e => hLX (e ▸ hDX)
  have loop : codeAny (model prog w) A (.compLoop (.ListComp elt [⟨.Name x px, iter, [], 0⟩] scope pos) 0 (.ref h₂.objs.size) (.ref D) (compEnvC scope cl C env)) R { s with heap := h, toks := tk } := by
    refine kn_last (s := { s with heap := h, toks := tk }) hg rfl W (lookup_relabel_local hx) (by simp [compEnvC, relabel, hkind]) (Ne.symm hCD) ?hDf ?hCf (Lx := L) ?hLf (Ne.symm hCL) (Ne.symm hDL)
      (fun i m₃ ys h => ∃ objs, GInv h₀ L m base X objs h ∧ Made P i ys objs) ?hfr ?hlen ?step st1 hn hD ⟨[], c0, .nil⟩ ?done
    case hDf => intro e; rcases List.mem_cons.mp e with e | e; exact hID e.symm; exact (fpX _ e).2 rfl
    case hCf => intro e; rcases List.mem_cons.mp e with e | e; exact hIC e.symm; exact (fpX _ e).1 rfl
    case hLf => intro e; rcases List.mem_cons.mp e with e | e; exact hIL e.symm; exact (hfx _ e).2 rfl
    case hfr =>
      rintro i m₃ ys h h' ⟨objs, c, md⟩ hk
      exact ⟨objs, c.keep hLX hX fun b o hb e => hk b o (fun q => hb (q ▸ hCX)) (fun q => hb (q ▸ hDX)) (fun q => hb ((List.mem_singleton.mp q) ▸ hIX)) e, md⟩
    case hlen =>
      rintro i m₃ ys h ⟨objs, _, md⟩ hi
      rw [md.len]; exact Nat.le_trans (Nat.le_of_lt hi) hsz
    case done =>
      rintro h' tk' m₃ ys hn' hD' ⟨objs, ⟨F', N', off'⟩, md⟩ hk
      refine done h' tk' m₃ ys objs hn' hCD hCL (hX _ hCX) hDL (hX _ hDX) F' (fun p hp => ?_) (fun p hp => ?_) (fun p hp q => off' p hp (q ▸ hDX)) md
      · rcases List.mem_cons.mp hp with rfl | hp
        · exact ⟨hD', hDL, hX _ hDX⟩
        · exact N' p hp
      · rcases List.mem_cons.mp hp with rfl | hp
        · exact Ne.symm hCD
        · exact fun q => off' p hp (q ▸ hCX)
    case step =>
      rintro i v h' tk' m₃ ys E' hi hv hn' hD' hst ⟨objs, c, md⟩ hk
      obtain ⟨oC, heC, hoC⟩ := ns_obj hn'
      have live : ∀ a ∈ X, ∃ o, h'.get? a = some o := fun a ha => by
        rcases hX3 a ha with rfl | rfl | rfl
        · exact hlive _ _ hst
        · exact ⟨_, heC⟩
        · exact ⟨_, hD'⟩
      refine wpAny_tests_nil ⟨h', tk', rfl, fun _ _ _ e => e, ?_⟩
      rw [if_pos rfl]
      have bs := every_of c.2.1
      refine wpAny_mono (turn i v hi hv C oC _ h' tk' (every h₀ h' L) _ hoC (by simp) c.1 (fun p hp => ?_) (fun p hp => bs p (List.mem_append_left _ hp)) (fun p hp q => c.2.2 p (List.mem_append_left _ hp) (q ▸ hCX))) (fun y s₄ h₄ => ?_) fun _ _ e => e
      · rcases List.mem_cons.mp hp with rfl | hp
        · exact ⟨heC, hCL, hX _ hCX⟩
        · exact every_news p hp
      · obtain ⟨no, h₄, tk₄, rfl, F₄, N₄, ne, hP⟩ := h₄
        have K := every_kept c.1 F₄ N₄ fun p hp => List.mem_append_right _ (.tail _ hp)
        refine ⟨h₄, tk₄, rfl, K, objs ++ no, ⟨F₄, fun p hp => ?_, fun p hp ha => ?_⟩, md.snoc hP⟩
        · rw [← List.append_assoc] at hp
          rcases List.mem_append.mp hp with hp | hp
          · exact ⟨K _ _ (c.2.1 p hp).2.1 (c.2.1 p hp).1, (c.2.1 p hp).2⟩
          · exact N₄ p (List.mem_append_left _ hp)
        · rw [← List.append_assoc] at hp
          rcases List.mem_append.mp hp with hp | hp
          · exact c.2.2 p hp ha
          · obtain ⟨o, e⟩ := live _ ha
            exact ne p hp (p.1, o) (.tail _ (every_mem e (hX _ ha) fun q => hLX (q ▸ ha))) rfl
  exact kn_start hg loop (W.self 0 _ _ _ st1 loop)
/-- a comprehension of one clause as a value -/
theorem one_comp {base : List (Addr × Obj)} {Q : Value → Shared → Prop}
    (hclos : closureFor scope env = pure cl) (hcell : ∀ y ∈ scope.names, y.2 ≠ .cell) (hkind : scope.kind = .function) (hnames : ∀ y ∈ scope.names, y.2 = .local → scope.names.lookup y.1 = some .local) (hx : scope.names.lookup x = some .local)
    (hi : wpAny (model prog w) A (eval iter env) (fun xv s₁ => ∃ n P0 fpx P, Source prog w A xv s₁.heap n P0 fpx ∧ n ≤ sizeLine ∧ (∀ a ∈ fpx, a ≠ L) ∧ Fr h₀ L s₁.heap m ∧ News h₀ L s₁.heap base ∧
      (∀ i v, i < n → P0 i v → EltTurn prog w A h₀ L m base elt x scope cl env s₁ (P i) v) ∧
      ∀ D ys objs h' tk', Fr h₀ L h' m → News h₀ L h' ((D, lst ys) :: (base ++ objs)) → (∀ p ∈ base ++ objs, p.1 ≠ D) → Made P n ys objs → Q (.ref D) { s₁ with heap := h', toks := tk' }) E s)
    (hs : ∀ x, foldedSetIterable iter env x = pure x := by intro _; rfl) :
    wpAny (model prog w) A (eval (.ListComp elt [⟨.Name x px, iter, [], 0⟩] scope pos) env) Q E s := by
  refine kn_top hclos hcell hkind hnames (wpAny_mono hi (fun xv s₁ h₁ => ?_) fun _ _ e => e) hs
  obtain ⟨n, P0, fpx, P, ⟨src1, src2⟩, hsz, hfL, F, N, turn, fin⟩ := h₁
  refine src2 s₁ _ _ rfl fun o St W hlive st0 => ?_
  intro h tk C D hDe hCe up hn hD
  refine one_start (s := s₁) hsz F N (fun a ha => ⟨src1 a ha, hfL a ha⟩) W hlive st0 hkind hx hDe hCe up hn hD turn fun h' tk' m' ys objs hn' hCD hCL hC₀ hDL hD₀ F' N' offC offD md => ?_
  refine ⟨_, m', rfl, hn', fun h'' hs'' => fin D ys objs h'' tk' ⟨F'.ns.at' fun o e => hs''.extBut _ _ (Ne.symm hCL) e, fun b o e => hs''.extBut b o (fun q => by rw [q, hC₀] at e; cases e) (F'.keep b o e), F'.above⟩ (fun p hp => ⟨hs''.extBut _ _ (offC p hp) (N' p hp).1, (N' p hp).2⟩) offD md⟩
end
/-- kn_top for an assignment to a name of the frame, the comprehension's value stored ahead of its names' going -/
theorem kn_topA {prog : Program} {w : World} {A : Around} {s : Shared} {E : Value → Shared → Prop} {env : Env} {elt target iter : Expr} {ifs : List Expr} {gs : List Comprehension} {scope : Scope} {cl : List (Str × Addr)} {pos spos : Pos} {y : Str} {py : Pos} {Q : Flow → Shared → Prop}
    (hsw : swapsWith (.ListComp elt (⟨target, iter, ifs, 0⟩ :: gs) scope pos) (some (.Name y py)) spos.line env = pure true)
    (hclos : closureFor scope env = pure cl) (hcell : ∀ y ∈ scope.names, y.2 ≠ .cell) (hkind : scope.kind = .function) (hnames : ∀ y ∈ scope.names, y.2 = .local → scope.names.lookup y.1 = some .local)
    (hi : wpAny (model prog w) A (eval iter env) (fun xv s₁ => wpAny (model prog w) A (pyIter xv) (fun it s₂ => ∀ h₁ tk₁ (C D : Addr), D = s₂.heap.objs.size → C = s₂.heap.objs.size + 1 → (∀ b o, s₂.heap.get? b = some o → h₁.get? b = some o) → h₁.Ns C (fun _ => none) → h₁.get? D = some (lst []) →
        codeAny (model prog w) A (.compStart (.ListComp elt (⟨target, iter, ifs, 0⟩ :: gs) scope pos) 0 it (.ref D) (compEnvC scope cl C env))
          (fun r s' => ∃ f, r = .ok f ∧ wpAny (model prog w) A (assign (.Name y py) env (.ref D)) (fun _ s'' => ∃ m', s''.heap.Ns C m' ∧ ∀ h', Heap.SameBut C s''.heap h' → Q .next { s'' with heap := h' }) E s') { s₂ with heap := h₁, toks := tk₁ }) E s₁) E s)
    (hs : ∀ x, foldedSetIterable iter env x = pure x := by intro _; rfl) :
    wpAny (model prog w) A (exec (.Assign [.Name y py] (.ListComp elt (⟨target, iter, ifs, 0⟩ :: gs) scope pos) spos) env) Q E s := by
  rw [exec_Assign_Name_used _ _ _ _ hsw]
  refine wpAny_bind (wpAny_standAt (wpAny_bind ?_))
  show wpAny _ A (do let _ ← comprehension (.ListComp elt (⟨target, iter, ifs, 0⟩ :: gs) scope pos) scope env _ (newList []) false (eval iter env) (some (assign (.Name y py) env))) _ _ s
  refine wpAny_bind (wpAny_mono (wpAny_comprehension_free (use := some (assign (.Name y py) env)) (Q := fun _ s' => Q .next s') rfl hs hclos hkind hnames
    (wpAny_mono hi (fun xv s₁ h₁ => ?_) fun _ _ e => e)) (fun _ s' hq => wpAny_pure (wpAny_pure hq)) fun _ _ e => e)
  refine wpAny_mono h₁ (fun it s₂ h₂ => ?_) fun _ _ e => e
  refine wpAny_newObj_type (wpAny_newFunctionEnv hcell (by intro y hy; simp at hy) (fun h₁ hns₁ hsb₁ => ?_) hkind)
  dsimp only at hns₁ hsb₁ ⊢
  have hsz : (s₂.heap.push { cls := .type "list", dict := none, data := .seq ([] : List Value).toArray }).objs.size = s₂.heap.objs.size + 1 := by rw [Heap.size_push]
  generalize hH2 : s₂.heap.push { cls := .type "list", dict := none, data := .seq ([] : List Value).toArray } = H2 at *
  have old : ∀ b o, s₂.heap.get? b = some o → h₁.get? b = some o := fun b o e => hsb₁.extBut b o (by show b ≠ H2.objs.size; rw [hsz]; exact Nat.ne_of_lt (Nat.lt_succ_of_lt (Heap.lt_size e))) (Heap.get?_push_of_some _ (hH2 ▸ Heap.get?_push_of_some _ e))
  have hD₁ : h₁.get? s₂.heap.objs.size = some (lst []) := hsb₁.extBut _ _ (by show s₂.heap.objs.size ≠ H2.objs.size; rw [hsz]; exact Nat.ne_of_lt (Nat.lt_succ_self _)) (Heap.get?_push_of_some _ (by rw [← hH2]; exact Heap.get?_push_size _ rfl))
  refine codeAny_mono (h₂ h₁ _ H2.objs.size s₂.heap.objs.size rfl hsz old (by simpa using hns₁) hD₁) fun r s' hr => ?_
  obtain ⟨f, rfl, hq⟩ := hr
  exact hq
/-- a comprehension of one clause, stored in a name of the frame -/
theorem one_assign {prog : Program} {w : World} {A : Around} {s : Shared} {E : Value → Shared → Prop} {env : Env} {elt iter : Expr} {x : Str} {px : Pos} {scope : Scope} {cl : List (Str × Addr)} {pos spos : Pos} {h₀ : Heap} {m : Str → Option Value} {base : List (Addr × Obj)} {y : Str} {py : Pos} {Q : Flow → Shared → Prop}
    (hsw : swapsWith (.ListComp elt [⟨.Name x px, iter, [], 0⟩] scope pos) (some (.Name y py)) spos.line env = pure true)
    (hclos : closureFor scope env = pure cl) (hcell : ∀ y ∈ scope.names, y.2 ≠ .cell) (hkind : scope.kind = .function) (hnames : ∀ y ∈ scope.names, y.2 = .local → scope.names.lookup y.1 = some .local) (hx : scope.names.lookup x = some .local)
    (hy : env.kindOf y = some .local) (hp : (env.scope.kind == .class || (env.scope.kind == .module && env.locals != env.globals)) = false)
    (hi : wpAny (model prog w) A (eval iter env) (fun xv s₁ => ∃ n P0 fpx P, Source prog w A xv s₁.heap n P0 fpx ∧ n ≤ sizeLine ∧ (∀ a ∈ fpx, a ≠ env.locals) ∧ Fr h₀ env.locals s₁.heap m ∧ News h₀ env.locals s₁.heap base ∧
      (∀ i v, i < n → P0 i v → EltTurn prog w A h₀ env.locals m base elt x scope cl env s₁ (P i) v) ∧
      ∀ D ys objs h' tk', Fr h₀ env.locals h' (fun u => if u = y then some (.ref D) else m u) → News h₀ env.locals h' ((D, lst ys) :: (base ++ objs)) → (∀ p ∈ base ++ objs, p.1 ≠ D) → Made P n ys objs → Q .next { s₁ with heap := h', toks := tk' }) E s)
    (hs : ∀ x, foldedSetIterable iter env x = pure x := by intro _; rfl) :
    wpAny (model prog w) A (exec (.Assign [.Name y py] (.ListComp elt [⟨.Name x px, iter, [], 0⟩] scope pos) spos) env) Q E s := by
  refine kn_topA hsw hclos hcell hkind hnames (wpAny_mono hi (fun xv s₁ h₁ => ?_) fun _ _ e => e) hs
  obtain ⟨n, P0, fpx, P, ⟨src1, src2⟩, hsz, hfL, F, N, turn, fin⟩ := h₁
  refine src2 s₁ _ _ rfl fun o St W hlive st0 => ?_
  intro h tk C D hDe hCe up hn hD
  refine one_start (s := s₁) hsz F N (fun a ha => ⟨src1 a ha, hfL a ha⟩) W hlive st0 hkind hx hDe hCe up hn hD turn fun h' tk' m' ys objs hn' hCD hCL hC₀ hDL hD₀ F' N' offC offD md => ?_
  refine ⟨_, rfl, wpAny_assign_Name (wpAny_storeName_local hy F'.ns (fun h₂ hn₂ hs₂ => ?_) hp)⟩
  have F₂ : Fr h₀ env.locals h₂ (fun u => if u = y then some (.ref D) else m u) := F'.set hn₂ hs₂
  refine ⟨m', hn'.at' (fun o e => hs₂.extBut _ _ hCL e), fun h'' hs'' => fin D ys objs h'' _ ⟨F₂.ns.at' fun o e => hs''.extBut _ _ (Ne.symm hCL) e, fun b o e => hs''.extBut b o (fun q => by rw [q, hC₀] at e; cases e) (F₂.keep b o e), F₂.above⟩ (fun p hp => ⟨hs''.extBut _ _ (offC p hp) (hs₂.extBut _ _ (N' p hp).2.1 (N' p hp).1), (N' p hp).2⟩) offD md⟩
end
section
open PyProof.Rows.LCg
theorem ints_at {ws : List Value} {ms : List Int} (h : IntsAre ws ms) : ∀ {i : Nat} {v : Value}, ws[i]? = some v → ∃ k t, v = .int k t := by
  induction h with
  | nil => intro i v e; simp at e
  | cons n t h ih =>
    intro i v e
    cases i with
    | zero => exact ⟨_, _, by simpa using e.symm⟩
    | succ i => exact ih (by simpa using e)
theorem Made.inv {P : Nat → Value → List (Addr × Obj) → Prop} {i : Nat} {ys : List Value} {objs : List (Addr × Obj)} (h : Made P (i + 1) ys objs) : ∃ ys' objs' y no, ys = ys' ++ [y] ∧ objs = objs' ++ no ∧ Made P i ys' objs' ∧ P i y no := by
  cases h with
  | snoc h p => exact ⟨_, _, _, _, rfl, rfl, h, p⟩
theorem Made.inv0 {P : Nat → Value → List (Addr × Obj) → Prop} {ys : List Value} {objs : List (Addr × Obj)} (h : Made P 0 ys objs) : ys = [] ∧ objs = [] := by
  cases h with
  | nil => exact ⟨rfl, rfl⟩
noncomputable def I4 (p : PA) : Prop := (0 ≤ p.2.1 ∧ p.2.1 ≤ 4) ∧ (0 ≤ p.2.2.1 ∧ p.2.2.1 ≤ 4) ∧ (0 ≤ p.2.2.2 ∧ p.2.2.2 ≤ 4)
/-- a paint drawn -/
noncomputable def DIn (base : List (Addr × Obj)) (p : PA) : Prop := I4 p ∧ ∃ t u v, (p.1, tup3 p.2.1 p.2.2.1 p.2.2.2 t u v) ∈ base
theorem fmod5 (n : Int) : 0 ≤ n.fmod 5 ∧ n.fmod 5 ≤ 4 := by
  have h1 := Int.fmod_nonneg_of_pos n (show (0 : Int) < 5 by decide)
  have h2 := Int.fmod_lt_of_pos n (show (0 : Int) < 5 by decide)
  omega
theorem st0 (w : World) : ∃ p sp, (fnBody (lawO w)).getD 0 (.Pass default) = .Assign [.Name (Str.ofString "drawn") p] (lc0 w) sp ∧ ∀ L aL cd, swapsWith (lc0 w) (some (.Name (Str.ofString "drawn") p)) sp.line (lawE w L aL cd) = pure true := ⟨_, _, rfl, fun _ _ _ => rfl⟩
theorem lc0_eq (w : World) : ∃ p, lc0 w = .ListComp (lcElt (lc0 w)) [⟨.Name (Str.ofString "v") p, lcIter (lc0 w) 0, [], 0⟩] (lcScope (lc0 w)) (lcPos (lc0 w)) := ⟨_, rfl⟩
set_option maxHeartbeats 8000000 in
/-- drawn -/
theorem s0 (w : World) (mean mg mb) {h₀ : Heap} {L aL : Addr} {cd : Value} {m : Str → Option Value} {base : List (Addr × Obj)} {a : Addr} {vs : List Value} {ns : List Int} {s : Shared} {Q : Flow → Shared → Prop} {E : Value → Shared → Prop}
    (B : Below callerA h₀ [] h₀) (X : (Mine.hd.heap_1 w.params).In h₀) (T : Top VW LO mean mg mb h₀) (F : Fr h₀ L s.heap m) (N : News h₀ L s.heap base) (hm : m "script" = some (.ref a)) (hL : h₀.IsList a vs.toArray) (hI : IntsAre vs ns) (h63 : ns.length ≤ 63)
    (hret : ∀ D (p1 p2 p3 p4 p5 p6 : PA) objs h' tk', Fr h₀ L h' (fun u => if u = Str.ofString "drawn" then some (.ref D) else m u) → News h₀ L h' ((D, lst [.ref p1.1, .ref p2.1, .ref p3.1, .ref p4.1, .ref p5.1, .ref p6.1]) :: (base ++ objs)) →
      DIn objs p1 → DIn objs p2 → DIn objs p3 → DIn objs p4 → DIn objs p5 → DIn objs p6 → Q .next { s with heap := h', toks := tk' }) :
    wpAny (model PySem.Challenge.rw_pg0251_01.row.prog w) (lawA w L aL cd) (exec ((fnBody (lawO w)).getD 0 (.Pass default)) (lawE w L aL cd)) Q E s := by
  obtain ⟨p, sp, e, hsw⟩ := st0 w
  obtain ⟨pv, el⟩ := lc0_eq w
  have hsw' := hsw L aL cd
  rw [e]
  rw [el] at hsw' ⊢
  refine one_assign (env := lawE w L aL cd) (base := base) (cl := []) (m := m) (h₀ := h₀) hsw' (by rfl) (by rw [lc0_names]; decide) (by rfl) (by rw [lc0_names]; decide) (by rw [lc0_names]; decide) (by rfl) (by rfl) ?_ (by intro _; rfl)
  refine it0 w mean mg mb h₀ L aL cd m a vs ns base hm hL hI h63 s _ _ B X T F N fun Dl ws ms h₁ tk₁ F₁ N₁ off hw h6 => ?_
  have hl : h₁.IsList Dl ws.toArray := ⟨_, (N₁ _ (.head _)).1, rfl, _, rfl⟩
  have hlen : ws.length = 6 := hw.length.trans h6
  refine ⟨ws.toArray.size, _, _, fun _ y no => ∃ p : PA, y = .ref p.1 ∧ DIn no p, Source.list (by rfl) hl, by rw [List.size_toArray, hlen]; exact Nat.le_of_ble_eq_true rfl, fun a ha => by rw [List.mem_singleton.mp ha]; exact (N₁ _ (.head _)).2.1, F₁, fun q hq => N₁ q (.tail _ hq), ?_, ?_⟩
  · intro i v hi hv C oC m₂ h tk led E' hC hmv F N hb hbC
    obtain ⟨k, t, rfl⟩ := ints_at hw (show ws[i]? = some v by simpa using hv)
    refine elt0 w mean mg mb h₀ L aL cd m m₂ C oC k t led hC hmv { s with heap := h, toks := tk } _ _ B X T F N fun D t1 t2 t3 h' tk' F' N' ne => ?_
    exact ⟨[(D, tup3 (k.fmod 5) ((k.fdiv 5).fmod 5) ((k.fdiv 25).fmod 5) t1 t2 t3)], h', tk', rfl, F', N', fun q hq p hp => by rw [List.mem_singleton.mp hq]; exact ne p hp, (D, k.fmod 5, (k.fdiv 5).fmod 5, (k.fdiv 25).fmod 5), rfl, ⟨fmod5 _, fmod5 _, fmod5 _⟩, t1, t2, t3, .head _⟩
  · intro D ys objs h' tk' F' N' _ md
    rw [List.size_toArray, hlen] at md
    obtain ⟨ys6, ob6, v6, n6, ey6, eo6, e6, p6, ry6, q6⟩ := md.inv
    obtain ⟨ys5, ob5, v5, n5, ey5, eo5, e5, p5, ry5, q5⟩ := e6.inv
    obtain ⟨ys4, ob4, v4, n4, ey4, eo4, e4, p4, ry4, q4⟩ := e5.inv
    obtain ⟨ys3, ob3, v3, n3, ey3, eo3, e3, p3, ry3, q3⟩ := e4.inv
    obtain ⟨ys2, ob2, v2, n2, ey2, eo2, e2, p2, ry2, q2⟩ := e3.inv
    obtain ⟨ys1, ob1, v1, n1, ey1, eo1, e1, p1, ry1, q1⟩ := e2.inv
    obtain ⟨ey0, eo0⟩ := e1.inv0
    have EY : ys = [.ref p1.1, .ref p2.1, .ref p3.1, .ref p4.1, .ref p5.1, .ref p6.1] := by
      rw [ey6, ey5, ey4, ey3, ey2, ey1, ey0, ry1, ry2, ry3, ry4, ry5, ry6]
      rfl
    have EO : objs = [] ++ n1 ++ n2 ++ n3 ++ n4 ++ n5 ++ n6 := by rw [eo6, eo5, eo4, eo3, eo2, eo1, eo0]
    rw [EY, EO] at N'
    have up : ∀ {no objs : List (Addr × Obj)} {p : PA}, DIn no p → (∀ q ∈ no, q ∈ objs) → DIn objs p := fun h hs => by
      obtain ⟨i, t, u, v, m⟩ := h; exact ⟨i, t, u, v, hs _ m⟩
    exact hret D p1 p2 p3 p4 p5 p6 _ h' tk' F' N' (up q1 fun q hq => List.mem_append_left _ (List.mem_append_left _ (List.mem_append_left _ (List.mem_append_left _ (List.mem_append_left _ (List.mem_append_right _ hq)))))) (up q2 fun q hq => List.mem_append_left _ (List.mem_append_left _ (List.mem_append_left _ (List.mem_append_left _ (List.mem_append_right _ hq))))) (up q3 fun q hq => List.mem_append_left _ (List.mem_append_left _ (List.mem_append_left _ (List.mem_append_right _ hq)))) (up q4 fun q hq => List.mem_append_left _ (List.mem_append_left _ (List.mem_append_right _ hq))) (up q5 fun q hq => List.mem_append_left _ (List.mem_append_right _ hq)) (up q6 fun q hq => List.mem_append_right _ hq)
end
section
noncomputable def forStmts (s : Stmt) : List Stmt := match s with
  | .For _ _ b _ _ => b
  | _ => []
noncomputable def forTgt (s : Stmt) : Expr := match s with
  | .For t _ _ _ _ => t
  | _ => .Constant .none 0 default
theorem abs_gen {prog : Program} {w : World} {A : Around} {E : Value → Shared → Prop} {s : Shared} {a : Int} {t : Tok} {Q : Value → Shared → Prop} (h : ∀ (n : Int) u tk, HidP (n = a.natAbs) → Q (.int n u) { s with toks := tk }) : wpAny (model prog w) A (call (.builtin "abs") [.int a t]) Q E s :=
  call_abs_int fun u tk => h _ u tk ⟨by split <;> omega⟩
theorem abs_128 {n : Int} {a b c d e f : Int} (h : HidP (n = (spanZ a b c d e f).natAbs)) (h1 : 0 ≤ a ∧ a ≤ 8) (h2 : 0 ≤ b ∧ b ≤ 8) (h3 : 0 ≤ c ∧ c ≤ 8) (h4 : 0 ≤ d ∧ d ≤ 8) (h5 : 0 ≤ e ∧ e ≤ 8) (h6 : 0 ≤ f ∧ f ≤ 8) : 0 ≤ n ∧ n ≤ 128 := by
  have := span_128 (show In8 a b c from ⟨h1, h2, h3⟩) (show In8 d e f from ⟨h4, h5, h6⟩)
  have := h.out
  omega

set_option maxRecDepth 100000 in
set_option maxHeartbeats 8000000 in
theorem turn9 (w : World) (mean mg mb) (h₀ : Heap) (L aL : Addr) (cd : Value) (m : Str → Option Value) (D x y z : Addr) (k1 : Nat) (a1 b1 c1 a2 b2 c2 a3 b3 c3 : Int) (t1 t2 t3 t4 t5 t6 t7 t8 t9 : Tok) (led : List (Addr × Obj))
   (h1 : 0 ≤ a1 ∧ a1 ≤ 8) (h2 : 0 ≤ b1 ∧ b1 ≤ 8) (h3 : 0 ≤ c1 ∧ c1 ≤ 8) (h4 : 0 ≤ a2 ∧ a2 ≤ 8) (h5 : 0 ≤ b2 ∧ b2 ≤ 8) (h6 : 0 ≤ c2 ∧ c2 ≤ 8) (h7 : 0 ≤ a3 ∧ a3 ≤ 8) (h8 : 0 ≤ b3 ∧ b3 ≤ 8) (h9 : 0 ≤ c3 ∧ c3 ≤ 8) (hp : PlainP a1 b1 c1 a2 b2 c2 a3 b3 c3) (mD : (D, ({ cls := .type "list", data := .seq #[.ref x, .ref y, .ref z] k1 } : Obj)) ∈ led) (m1 : (x, tup3 a1 b1 c1 t1 t2 t3) ∈ led) (m2 : (y, tup3 a2 b2 c2 t4 t5 t6) ∈ led) (m3 : (z, tup3 a3 b3 c3 t7 t8 t9) ∈ led) (s : Shared) (Q : Flow → Shared → Prop) (E : Value → Shared → Prop)
   (B : Below callerA h₀ [] h₀) (X : (Mine.hd.heap_1 w.params).In h₀) (T : Top VW LO mean mg mb h₀) (F : Fr h₀ L s.heap m) (N : News h₀ L s.heap led)
   (hret : ∀ m' h' tk', Fr h₀ L h' m' → Agr ["x", "y", "z", "parts"] m m' → News h₀ L h' led → Q .next { s with heap := h', toks := tk' }) :
    wpAny (model PySem.Challenge.rw_pg0251_01.row.prog w) (lawA w L aL cd) (assign (forTgt ((fnBody (lawO w)).getD 9 (.Pass default))) (lawE w L aL cd) (.ref D)) (fun _ s₂ => wpAny (model PySem.Challenge.rw_pg0251_01.row.prog w) (lawA w L aL cd) (execs (forStmts ((fnBody (lawO w)).getD 9 (.Pass default))) (lawE w L aL cd)) Q E s₂) E s := by
  w_on; revert X; k_fill; intro X
  k_dflt (show wpAny _ (callerA.deeper (envOfC _ (Scope.mk _ _ _ _ _) _ _ _)) (assign (.Tuple _ _ _) (envOfC _ (Scope.mk _ _ _ _ _) _ _ _) _) (fun _ s₂ => wpAny _ (callerA.deeper (envOfC _ (Scope.mk _ _ _ _ _) _ _ _)) (execs (_ :: _ :: []) (envOfC _ (Scope.mk _ _ _ _ _) _ _ _)) _ _ s₂) _ _)
  (try dsimp only); (try k_fold)
  repeat' (first |  ((with_reducible show wpAny _ _ (call (Value.ref _) _ _) _ _ _); (k_here; k_dflt (refine' tell_use (span_tell _ _ _ _ _ _ _ _ _ _ _ _ _ _ _ _ _ _ ?zqh1 ?zqh2 ?zqh3 ?zqh4 ?zqh5 ?zqh6) ?zqB ?zqF ?zqX ?zqN ?zqT ?zqhk ?zqhd ?zqhu ?zqhs ?_; (case zqB => k_asm); (case zqF => k_asm); (case zqX => k_asm); (case zqN => k_asm); (case zqT => k_asm); (case zqhk => first | exact rfl | assumption); (case zqhd => ktr_room); (case zqhu => ktr_units); (case zqhs => k_subL); (case zqh1 => first | assumption | omega); (case zqh2 => first | assumption | omega); (case zqh3 => first | assumption | omega); (case zqh4 => first | assumption | omega); (case zqh5 => first | assumption | omega); (case zqh6 => first | assumption | omega); k_whole); intro r9 tl9 h9 tk9 p9 k9 F9 N9 e9; obtain ⟨tl9e, t9, r9e⟩ := p9; subst r9e; subst tl9e; (try simp only [List.cons_append, List.nil_append] at N9); (try simp only [NeAlls, NeAll, and_true, true_and, and_assoc] at e9); (repeat (have e8 := e9.1; replace e9 := e9.2)); (try k_sweep); (try dsimp only); (try k_fold))) | ((with_reducible show wpAny _ _ (call (Value.ref _) _ _) _ _ _); (k_here; k_dflt (refine' tell_use (mix_tell _ _ _ _ _ _ _ _ _ _ _ _ _ _ _ _ _ _ _ _ _ _ _ _ _ _ _ _ _ _ _ _ _ _ _ ?zqhh0 ?zqhh1 ?zqhh2 ?zqhh3 ?zqhh4 ?zqhh5 ?zqhh6 ?zqhh7 ?zqhh8 ?zqhk0 ?zqhk1 ?zqhk2 ?zqhg0 ?zqhg1) ?zqB ?zqF ?zqX ?zqN ?zqT ?zqhk ?zqhd ?zqhu ?zqhs ?_; (case zqB => k_asm); (case zqF => k_asm); (case zqX => k_asm); (case zqN => k_asm); (case zqT => k_asm); (case zqhk => first | exact rfl | assumption); (case zqhd => ktr_room); (case zqhu => ktr_units); (case zqhs => k_subL); (all_goals first | assumption | decide | exact abs_128 (by assumption) (by assumption) (by assumption) (by assumption) (by assumption) (by assumption) (by assumption) | exact (mix_grey (by assumption) (HidP.out (by assumption)) (HidP.out (by assumption)) (HidP.out (by assumption))).1 | exact (mix_grey (by assumption) (HidP.out (by assumption)) (HidP.out (by assumption)) (HidP.out (by assumption))).2 | skip); k_whole); intro r9 tl9 h9 tk9 p9 k9 F9 N9 e9; obtain ⟨D9, x9, t91, t92, t93, r9e, tl9e⟩ := p9; subst r9e; subst tl9e; (try simp only [List.cons_append, List.nil_append] at N9); (try simp only [NeAlls, NeAll, and_true, true_and, and_assoc] at e9); (repeat (have e8 := e9.1; replace e9 := e9.2)); (try k_sweep); (try dsimp only); (try k_fold))) | ((with_reducible show wpAny _ _ (exec (Stmt.For (Expr.Name _ _) (Expr.Name _ _) _ _ _) _) _ _ _); (k_here; (rename Fr _ _ _ _ => lF'); (with_unfolding_all refine' For_turns lF' ?_; k_whole))) | ((with_reducible show wpAny _ _ (call (Value.builtin "list.insert") _ _) _ _ _); ((with_reducible show wpAny _ _ (call _ (_ ++ _)) _ _ _); dsimp only [List.cons_append, List.nil_append])) | ((with_reducible show wpAny _ _ (subscriptTail _ _ (Value.ref _) _) _ _ _); (k_here; (with_reducible show wpAny _ _ (subscriptTail _ _ (Value.ref _) (Value.int _ _)) _ _ _); k_dflt (refine' sub_any ?zqk1 ?zqk2 ?zqkh ?zqk3 ?zqk4 ?zqk5 ?_; (case zqk1 => k_asm); (case zqk2 => k_mem); (case zqkh => first | exact .inr ⟨_, rfl⟩ | exact .inl ⟨_, rfl⟩); (case zqk3 => decide); (case zqk4 => decide); (case zqk5 => rfl)))) | ((with_reducible show wpAny _ _ (eval (Expr.Name _ _) _) _ _ _); (k_here; k_dflt (refine' nameX_L ?zqk1 ?zqk2 ?_; (case zqk1 => k_asm); (case zqk2 => assumption)))) | ((with_reducible show wpAny _ _ (call (Value.builtin "abs") _ _) _ _ _); (k_here; k_dflt (refine' abs_gen ?_); intro n' u' tk' hn'; (try dsimp only); (try k_fold))) | (k_unfold; (try dsimp only)) | (k_end; wrow_close) | (walk1 <;> (try dsimp only) <;> (try walk_at "mine split")) | (dsimp only; walk1) | (leave1; walk_say "STEP leave1"; try dsimp only) | fail "no step")
  all_goals first
  | exact absurd (show (Float64.cmp 0 0 != some Ordering.eq) = true by assumption) (by decide +kernel)
  | exact hret _ _ _ (by k_asm) (by walk_at "mine agr") (by first | exact sufN (by k_asm) [] rfl | exact sufN (by k_asm) [_] rfl | exact sufN (by k_asm) [_, _] rfl | exact sufN (by k_asm) [_, _, _] rfl | exact sufN (by k_asm) [_, _, _, _] rfl | exact sufN (by k_asm) [_, _, _, _, _] rfl | exact sufN (by k_asm) [_, _, _, _, _, _] rfl | exact sufN (by k_asm) [_, _, _, _, _, _, _] rfl | exact sufN (by k_asm) [_, _, _, _, _, _, _, _] rfl | exact sufN (by k_asm) [_, _, _, _, _, _, _, _, _] rfl | exact sufN (by k_asm) [_, _, _, _, _, _, _, _, _, _] rfl | exact sufN (by k_asm) [_, _, _, _, _, _, _, _, _, _, _] rfl | exact sufN (by k_asm) [_, _, _, _, _, _, _, _, _, _, _, _] rfl | exact sufN (by k_asm) [_, _, _, _, _, _, _, _, _, _, _, _, _] rfl | exact sufN (by k_asm) [_, _, _, _, _, _, _, _, _, _, _, _, _, _] rfl | exact sufN (by k_asm) [_, _, _, _, _, _, _, _, _, _, _, _, _, _, _] rfl)
end
section

set_option maxRecDepth 100000 in
set_option maxHeartbeats 8000000 in
theorem mix5 (w : World) (mean mg mb) (h₀ : Heap) (L aL : Addr) (cd : Value) (m : Str → Option Value) (q : Addr) (k1 : Nat) (p1 p2 p3 : Addr) (a1 b1 c1 a2 b2 c2 a3 b3 c3 : Int) (t1 t2 t3 t4 t5 t6 t7 t8 t9 : Tok) (led : List (Addr × Obj))
   (h1 : 0 ≤ a1 ∧ a1 ≤ 8) (h2 : 0 ≤ b1 ∧ b1 ≤ 8) (h3 : 0 ≤ c1 ∧ c1 ≤ 8) (h4 : 0 ≤ a2 ∧ a2 ≤ 8) (h5 : 0 ≤ b2 ∧ b2 ≤ 8) (h6 : 0 ≤ c2 ∧ c2 ≤ 8) (h7 : 0 ≤ a3 ∧ a3 ≤ 8) (h8 : 0 ≤ b3 ∧ b3 ≤ 8) (h9 : 0 ≤ c3 ∧ c3 ≤ 8) (g1 : 1 * a3 + (1 * a2 + (1 * a1 + 0)) = 1 * b3 + (1 * b2 + (1 * b1 + 0))) (g2 : 1 * b3 + (1 * b2 + (1 * b1 + 0)) = 1 * c3 + (1 * c2 + (1 * c1 + 0))) (mq : (q, ({ cls := .type "list", data := .seq #[.ref p1, .ref p2, .ref p3] k1 } : Obj)) ∈ led) (m1 : (p1, tup3 a1 b1 c1 t1 t2 t3) ∈ led) (m2 : (p2, tup3 a2 b2 c2 t4 t5 t6) ∈ led) (m3 : (p3, tup3 a3 b3 c3 t7 t8 t9) ∈ led) (hm : m "pot" = some (.ref q)) (s : Shared) (Q : Flow → Shared → Prop) (E : Value → Shared → Prop)
   (B : Below callerA h₀ [] h₀) (X : (Mine.hd.heap_1 w.params).In h₀) (T : Top VW LO mean mg mb h₀) (F : Fr h₀ L s.heap m) (N : News h₀ L s.heap led)
   (hret : ∀ h' tk', Fr h₀ L h' m → News h₀ L h' led → Q .next { s with heap := h', toks := tk' }) :
    wpAny (model PySem.Challenge.rw_pg0251_01.row.prog w) (lawA w L aL cd) (exec (forBody ((fnBody (lawO w)).getD 5 (.Pass default))) (lawE w L aL cd)) Q E s := by
  w_on; revert X; k_fill; intro X
  k_dflt (show wpAny _ (callerA.deeper (envOfC _ (Scope.mk _ _ _ _ _) _ _ _)) (exec (.If _ _ _ _) (envOfC _ (Scope.mk _ _ _ _ _) _ _ _)) _ _ _)
  (try dsimp only); (try k_fold)
  repeat' (first |  ((with_reducible show wpAny _ _ (call (Value.ref _) _ _) _ _ _); (k_here; k_dflt (refine' tell_use (mix_tell _ _ _ _ _ _ _ _ _ _ _ _ _ _ _ _ _ _ _ _ _ _ _ _ _ _ _ _ _ _ _ _ _ _ _ ?zqhh0 ?zqhh1 ?zqhh2 ?zqhh3 ?zqhh4 ?zqhh5 ?zqhh6 ?zqhh7 ?zqhh8 ?zqhk0 ?zqhk1 ?zqhk2 ?zqhg0 ?zqhg1) ?zqB ?zqF ?zqX ?zqN ?zqT ?zqhk ?zqhd ?zqhu ?zqhs ?_; (case zqB => k_asm); (case zqF => k_asm); (case zqX => k_asm); (case zqN => k_asm); (case zqT => k_asm); (case zqhk => first | exact rfl | assumption); (case zqhd => ktr_room); (case zqhu => ktr_units); (case zqhs => k_subL); (all_goals first | assumption | decide | skip); k_whole); intro r9 tl9 h9 tk9 p9 k9 F9 N9 e9; obtain ⟨D9, x9, t91, t92, t93, r9e, tl9e⟩ := p9; subst r9e; subst tl9e; (try simp only [List.cons_append, List.nil_append] at N9); (try simp only [NeAlls, NeAll, and_true, true_and, and_assoc] at e9); (repeat (have e8 := e9.1; replace e9 := e9.2)); (try k_sweep); (try dsimp only); (try k_fold))) | ((with_reducible show wpAny _ _ (exec (Stmt.For (Expr.Name _ _) (Expr.Name _ _) _ _ _) _) _ _ _); (k_here; (rename Fr _ _ _ _ => lF'); (with_unfolding_all refine' For_turns lF' ?_; k_whole))) | ((with_reducible show wpAny _ _ (call (Value.builtin "list.insert") _ _) _ _ _); ((with_reducible show wpAny _ _ (call _ (_ ++ _)) _ _ _); dsimp only [List.cons_append, List.nil_append])) | ((with_reducible show wpAny _ _ (subscriptTail _ _ (Value.ref _) _) _ _ _); (k_here; (with_reducible show wpAny _ _ (subscriptTail _ _ (Value.ref _) (Value.int _ _)) _ _ _); k_dflt (refine' sub_any ?zqk1 ?zqk2 ?zqkh ?zqk3 ?zqk4 ?zqk5 ?_; (case zqk1 => k_asm); (case zqk2 => k_mem); (case zqkh => first | exact .inr ⟨_, rfl⟩ | exact .inl ⟨_, rfl⟩); (case zqk3 => decide); (case zqk4 => decide); (case zqk5 => rfl)))) | ((with_reducible show wpAny _ _ (eval (Expr.Name _ _) _) _ _ _); (k_here; k_dflt (refine' nameX_L ?zqk1 ?zqk2 ?_; (case zqk1 => k_asm); (case zqk2 => assumption)))) | (k_unfold; (try dsimp only)) | (k_end; wrow_close) | (walk1 <;> (try dsimp only) <;> (try walk_at "mine split")) | (dsimp only; walk1) | (leave1; walk_say "STEP leave1"; try dsimp only) | fail "no step")
  all_goals first
  | exact absurd (show (Float64.cmp 0 0 != some Ordering.eq) = true by assumption) (by decide +kernel)
  | exact hret _ _ (by k_asm) (by first | exact sufN (by k_asm) [] rfl | exact sufN (by k_asm) [_] rfl | exact sufN (by k_asm) [_, _] rfl | exact sufN (by k_asm) [_, _, _] rfl | exact sufN (by k_asm) [_, _, _, _] rfl | exact sufN (by k_asm) [_, _, _, _, _] rfl | exact sufN (by k_asm) [_, _, _, _, _, _] rfl | exact sufN (by k_asm) [_, _, _, _, _, _, _] rfl | exact sufN (by k_asm) [_, _, _, _, _, _, _, _] rfl | exact sufN (by k_asm) [_, _, _, _, _, _, _, _, _] rfl | exact sufN (by k_asm) [_, _, _, _, _, _, _, _, _, _] rfl | exact sufN (by k_asm) [_, _, _, _, _, _, _, _, _, _, _] rfl | exact sufN (by k_asm) [_, _, _, _, _, _, _, _, _, _, _, _] rfl | exact sufN (by k_asm) [_, _, _, _, _, _, _, _, _, _, _, _, _] rfl | exact sufN (by k_asm) [_, _, _, _, _, _, _, _, _, _, _, _, _, _] rfl | exact sufN (by k_asm) [_, _, _, _, _, _, _, _, _, _, _, _, _, _, _] rfl)
end
section

set_option maxRecDepth 100000 in
set_option maxHeartbeats 8000000 in
theorem s1b (w : World) (mean mg mb) (h₀ : Heap) (L aL : Addr) (cd : Value) (m : Str → Option Value) (w1 w2 w3 w4 w5 : Obj) (v0 : Option Value) (led : List (Addr × Obj))
   (d1 : w1.data = .cell v0) (o1 : ∀ p ∈ led, p.1 ≠ L + 1) (o2 : ∀ p ∈ led, p.1 ≠ L + 1 + 1) (o3 : ∀ p ∈ led, p.1 ≠ L + 1 + 1 + 1) (o4 : ∀ p ∈ led, p.1 ≠ L + 1 + 1 + 1 + 1) (o5 : ∀ p ∈ led, p.1 ≠ L + 1 + 1 + 1 + 1 + 1) (e01 : @Ne Nat (L + 1) (L + 1 + 1)) (e02 : @Ne Nat (L + 1) (L + 1 + 1 + 1)) (e03 : @Ne Nat (L + 1) (L + 1 + 1 + 1 + 1)) (e04 : @Ne Nat (L + 1) (L + 1 + 1 + 1 + 1 + 1)) (e10 : @Ne Nat (L + 1 + 1) (L + 1)) (e12 : @Ne Nat (L + 1 + 1) (L + 1 + 1 + 1)) (e13 : @Ne Nat (L + 1 + 1) (L + 1 + 1 + 1 + 1)) (e14 : @Ne Nat (L + 1 + 1) (L + 1 + 1 + 1 + 1 + 1)) (e20 : @Ne Nat (L + 1 + 1 + 1) (L + 1)) (e21 : @Ne Nat (L + 1 + 1 + 1) (L + 1 + 1)) (e23 : @Ne Nat (L + 1 + 1 + 1) (L + 1 + 1 + 1 + 1)) (e24 : @Ne Nat (L + 1 + 1 + 1) (L + 1 + 1 + 1 + 1 + 1)) (e30 : @Ne Nat (L + 1 + 1 + 1 + 1) (L + 1)) (e31 : @Ne Nat (L + 1 + 1 + 1 + 1) (L + 1 + 1)) (e32 : @Ne Nat (L + 1 + 1 + 1 + 1) (L + 1 + 1 + 1)) (e34 : @Ne Nat (L + 1 + 1 + 1 + 1) (L + 1 + 1 + 1 + 1 + 1)) (e40 : @Ne Nat (L + 1 + 1 + 1 + 1 + 1) (L + 1)) (e41 : @Ne Nat (L + 1 + 1 + 1 + 1 + 1) (L + 1 + 1)) (e42 : @Ne Nat (L + 1 + 1 + 1 + 1 + 1) (L + 1 + 1 + 1)) (e43 : @Ne Nat (L + 1 + 1 + 1 + 1 + 1) (L + 1 + 1 + 1 + 1)) (s : Shared) (Q : Flow → Shared → Prop) (E : Value → Shared → Prop)
   (B : Below callerA h₀ [] h₀) (X : (Mine.hd.heap_1 w.params).In h₀) (T : Top VW LO mean mg mb h₀) (F : Fr h₀ L s.heap m) (N : News h₀ L s.heap ((L + 1 + 1 + 1 + 1 + 1, w5) :: (L + 1 + 1 + 1 + 1, w4) :: (L + 1 + 1 + 1, w3) :: (L + 1 + 1, w2) :: (L + 1, w1) :: led))
   (hret : ∀ pt w1' h' tk', Fr h₀ L h' m → w1'.data = .cell (some (.ref pt)) → News h₀ L h' ((pt, ({ cls := .type "list", data := .seq #[] 0 } : Obj)) :: (L + 1 + 1 + 1 + 1 + 1, w5) :: (L + 1 + 1 + 1 + 1, w4) :: (L + 1 + 1 + 1, w3) :: (L + 1 + 1, w2) :: (L + 1, w1') :: led) → (∀ p ∈ (L + 1 + 1 + 1 + 1 + 1, w5) :: (L + 1 + 1 + 1 + 1, w4) :: (L + 1 + 1 + 1, w3) :: (L + 1 + 1, w2) :: (L + 1, w1') :: led, p.1 ≠ pt) → @LT.lt Nat _ (L + 1 + 1 + 1 + 1 + 1) pt → Q .next { s with heap := h', toks := tk' }) :
    wpAny (model PySem.Challenge.rw_pg0251_01.row.prog w) (lawA w L aL cd) (exec ((fnBody (lawO w)).getD 1 (.Pass default)) (lawE w L aL cd)) Q E s := by
  w_on; revert X; k_fill; intro X
  k_dflt (show wpAny _ (callerA.deeper (envOfC _ (Scope.mk _ _ _ _ _) _ _ _)) (exec (.Assign _ _ _) (envOfC _ (Scope.mk _ _ _ _ _) _ _ _)) _ _ _)
  (try dsimp only); (try k_fold)
  repeat' (first |  ((with_reducible show wpAny _ _ (eval (Expr.Name _ _) _) _ _ _); (k_here; k_dflt (first | (refine' nameX_L ?zqk1 ?zqk2 ?_; (case zqk1 => k_asm); (case zqk2 => assumption)) | (refine' nameX_C ?zqN ?zqc ?zqm ?zqd ?_ ?zqa ?zqb; (case zqa => rfl); (case zqb => rfl); (case zqN => k_asm); (case zqc => rfl); (case zqm => k_mem); (case zqd => assumption); k_whole)))) | ((with_reducible show wpAny _ _ (exec (Stmt.For (Expr.Name _ _) (Expr.Name _ _) _ _ _) _) _ _ _); (k_here; (rename Fr _ _ _ _ => lF'); (with_unfolding_all refine' For_turns lF' ?_; k_whole))) | ((with_reducible show wpAny _ _ (call (Value.builtin "list.insert") _ _) _ _ _); ((with_reducible show wpAny _ _ (call _ (_ ++ _)) _ _ _); dsimp only [List.cons_append, List.nil_append])) | ((with_reducible show wpAny _ _ (subscriptTail _ _ (Value.ref _) _) _ _ _); (k_here; (with_reducible show wpAny _ _ (subscriptTail _ _ (Value.ref _) (Value.int _ _)) _ _ _); k_dflt (refine' sub_any ?zqk1 ?zqk2 ?zqkh ?zqk3 ?zqk4 ?zqk5 ?_; (case zqk1 => k_asm); (case zqk2 => k_mem); (case zqkh => first | exact .inr ⟨_, rfl⟩ | exact .inl ⟨_, rfl⟩); (case zqk3 => decide); (case zqk4 => decide); (case zqk5 => rfl)))) | (k_unfold; (try dsimp only)) | (k_end; wrow_close) | (walk1 <;> (try dsimp only) <;> (try walk_at "mine split")) | (dsimp only; walk1) | (leave1; walk_say "STEP leave1"; try dsimp only) | fail "no step")
  all_goals first
  | exact hret _ _ _ _ (by k_asm) (by assumption) (by k_asm) (by k_all) (by with_reducible assumption)
  | skip
end
section
noncomputable def exprVal (s : Stmt) : Expr := match s with
  | .Expr v _ => v
  | _ => .Constant .none 0 default
noncomputable def callArg (e : Expr) (i : Nat) : Expr := match e with
  | .Call _ args _ _ => args.getD i (.Constant .none 0 default)
  | _ => .Constant .none 0 default
noncomputable def listElt (e : Expr) (i : Nat) : Expr := match e with
  | .List es _ => es.getD i (.Constant .none 0 default)
  | _ => .Constant .none 0 default
noncomputable def lcB (w : World) : Expr := assignVal ((forStmts ((fnBody (lawO w)).getD 2 (.Pass default))).getD 0 (.Pass default))
noncomputable def lcT (w : World) : Expr := callArg (listElt (callArg (exprVal ((forStmts ((fnBody (lawO w)).getD 2 (.Pass default))).getD 1 (.Pass default))) 0) 2) 0
theorem lcB_names (w : World) : (lcScope (lcB w)).names = [(Str.ofString ".0", .local), (Str.ofString "k", .local), (Str.ofString "one", .free), (Str.ofString "other", .free)] := rfl
theorem lcT_names (w : World) : (lcScope (lcT w)).names = [(Str.ofString ".0", .local), (Str.ofString "part", .local), (Str.ofString "max", .globalImplicit), (Str.ofString "both", .free)] := rfl
noncomputable abbrev cloB (L : Addr) : List (Str × Addr) := [(Str.ofString "other", L + 1 + 1 + 1), (Str.ofString "one", L + 1 + 1)]
noncomputable abbrev cloT (L : Addr) : List (Str × Addr) := [(Str.ofString "both", L + 1 + 1 + 1 + 1)]
theorem closB (w : World) (L aL : Addr) (cd : Value) : closureFor (lcScope (lcB w)) (lawE w L aL cd) = pure (cloB L) := rfl
theorem closT (w : World) (L aL : Addr) (cd : Value) : closureFor (lcScope (lcT w)) (lawE w L aL cd) = pure (cloT L) := rfl
noncomputable abbrev cEB (w : World) (L aL : Addr) (cd : Value) (C : Addr) : Env := compEnvC (lcScope (lcB w)) (cloB L) C (lawE w L aL cd)
noncomputable abbrev cET (w : World) (L aL : Addr) (cd : Value) (C : Addr) : Env := compEnvC (lcScope (lcT w)) (cloT L) C (lawE w L aL cd)
noncomputable def MxP (a b c M : Int) : Prop := a ≤ M ∧ b ≤ M ∧ c ≤ M ∧ (M = a ∨ M = b ∨ M = c)

set_option maxRecDepth 100000 in
set_option maxHeartbeats 8000000 in
theorem eltB_0 (w : World) (mean mg mb) (h₀ : Heap) (L aL : Addr) (cd : Value) (m m₂ : Str → Option Value) (C p1 p2 : Addr) (oC w2 w3 : Obj) (a1 b1 c1 a2 b2 c2 : Int) (t1 t2 t3 t4 t5 t6 tk : Tok) (led : List (Addr × Obj))
   (hC : PyProof.Rows.LCg.NsObj oC m₂) (hv : m₂ "k" = some (.int 0 tk)) (d2 : w2.data = .cell (some (.ref p1))) (d3 : w3.data = .cell (some (.ref p2))) (mw2 : (L + 1 + 1, w2) ∈ led) (mw3 : (L + 1 + 1 + 1, w3) ∈ led) (m1 : (p1, tup3 a1 b1 c1 t1 t2 t3) ∈ led) (m2 : (p2, tup3 a2 b2 c2 t4 t5 t6) ∈ led) (s : Shared) (Q : Value → Shared → Prop) (E : Value → Shared → Prop)
   (B : Below callerA h₀ [] h₀) (X : (Mine.hd.heap_1 w.params).In h₀) (T : Top VW LO mean mg mb h₀) (F : Fr h₀ L s.heap m) (N : News h₀ L s.heap ((C, oC) :: led))
   (hret : ∀ t h' tk', Fr h₀ L h' m → News h₀ L h' ((C, oC) :: led) → Q (.int (a1 + a2) t) { s with heap := h', toks := tk' }) :
    wpAny (model PySem.Challenge.rw_pg0251_01.row.prog w) (lawA w L aL cd) (eval (lcElt (lcB w)) (cEB w L aL cd C)) Q E s := by
  w_on; revert X; k_fill; intro X
  k_dflt (show wpAny _ (callerA.deeper (envOfC _ (Scope.mk _ _ _ _ _) _ _ _)) (eval (.BinOp _ _ _ _) (compEnvC (Scope.mk _ _ _ _ _) _ _ (envOfC _ (Scope.mk _ _ _ _ _) _ _ _))) _ _ _)
  (try dsimp only); (try k_fold)
  repeat' (first | ((with_reducible show wpAny _ _ (eval (Expr.Name _ _) _) _ _ _); (k_here; k_dflt (first | (refine' nameX_L ?zqk1 ?zqk2 ?_; (case zqk1 => k_asm); (case zqk2 => assumption)) | (refine' nameX_C ?zqN ?zqc ?zqm ?zqd ?_ ?zqa ?zqb; (case zqa => rfl); (case zqb => rfl); (case zqN => k_asm); (case zqc => rfl); (case zqm => k_mem); (case zqd => assumption); k_whole)))) | ((with_reducible show wpAny _ _ (exec (Stmt.For (Expr.Name _ _) (Expr.Name _ _) _ _ _) _) _ _ _); (k_here; (rename Fr _ _ _ _ => lF'); (with_unfolding_all refine' For_turns lF' ?_; k_whole))) | ((with_reducible show wpAny _ _ (call (Value.builtin "list.insert") _ _) _ _ _); ((with_reducible show wpAny _ _ (call _ (_ ++ _)) _ _ _); dsimp only [List.cons_append, List.nil_append])) | ((with_reducible show wpAny _ _ (subscriptTail _ _ (Value.ref _) _) _ _ _); (k_here; (with_reducible show wpAny _ _ (subscriptTail _ _ (Value.ref _) (Value.int _ _)) _ _ _); k_dflt (refine' sub_any ?zqk1 ?zqk2 ?zqkh ?zqk3 ?zqk4 ?zqk5 ?_; (case zqk1 => k_asm); (case zqk2 => k_mem); (case zqkh => first | exact .inr ⟨_, rfl⟩ | exact .inl ⟨_, rfl⟩); (case zqk3 => decide); (case zqk4 => decide); (case zqk5 => rfl)))) | ((with_reducible show wpAny _ _ (call (Value.builtin "min") _ _) _ _ _); (k_here; (with_reducible show wpAny _ _ (call (Value.builtin _) [Value.ref _]) _ _ _); k_dflt (refine' min3_list ?zqk0 ?zqk1 ?zqk2 ?zqk3 ?_; (case zqk0 => exact rfl); (case zqk1 => k_asm); (case zqk2 => k_asm); (case zqk3 => k_mem); k_whole); intro M' t' h' tk' F' N' m1' m2' m3' m4'; (try k_sweep))) | ((with_reducible show wpAny _ _ (call (Value.builtin "max") _ _) _ _ _); (k_here; (with_reducible show wpAny _ _ (call (Value.builtin _) [Value.ref _]) _ _ _); k_dflt (refine' max3_list ?zqk0 ?zqk1 ?zqk2 ?zqk3 ?_; (case zqk0 => exact rfl); (case zqk1 => k_asm); (case zqk2 => k_asm); (case zqk3 => k_mem); k_whole); intro M' t' h' tk' F' N' m1' m2' m3' m4'; (try k_sweep))) | (k_unfold; (try dsimp only)) | (k_end; wrow_close) | (walk1 <;> (try dsimp only) <;> (try walk_at "mine split")) | (dsimp only; walk1) | (leave1; walk_say "STEP leave1"; try dsimp only) | fail "no step")
  all_goals first
  | exact hret _ _ _ (by k_asm) (by first | exact sufN (by k_asm) [] rfl | exact sufN (by k_asm) [_] rfl | exact sufN (by k_asm) [_, _] rfl | exact sufN (by k_asm) [_, _, _] rfl | exact sufN (by k_asm) [_, _, _, _] rfl | exact sufN (by k_asm) [_, _, _, _, _] rfl | exact sufN (by k_asm) [_, _, _, _, _, _] rfl | exact sufN (by k_asm) [_, _, _, _, _, _, _] rfl | exact sufN (by k_asm) [_, _, _, _, _, _, _, _] rfl | exact sufN (by k_asm) [_, _, _, _, _, _, _, _, _] rfl | exact sufN (by k_asm) [_, _, _, _, _, _, _, _, _, _] rfl | exact sufN (by k_asm) [_, _, _, _, _, _, _, _, _, _, _] rfl | exact sufN (by k_asm) [_, _, _, _, _, _, _, _, _, _, _, _] rfl | exact sufN (by k_asm) [_, _, _, _, _, _, _, _, _, _, _, _, _] rfl | exact sufN (by k_asm) [_, _, _, _, _, _, _, _, _, _, _, _, _, _] rfl | exact sufN (by k_asm) [_, _, _, _, _, _, _, _, _, _, _, _, _, _, _] rfl)
  | skip

set_option maxRecDepth 100000 in
set_option maxHeartbeats 8000000 in
theorem eltB_1 (w : World) (mean mg mb) (h₀ : Heap) (L aL : Addr) (cd : Value) (m m₂ : Str → Option Value) (C p1 p2 : Addr) (oC w2 w3 : Obj) (a1 b1 c1 a2 b2 c2 : Int) (t1 t2 t3 t4 t5 t6 tk : Tok) (led : List (Addr × Obj))
   (hC : PyProof.Rows.LCg.NsObj oC m₂) (hv : m₂ "k" = some (.int 1 tk)) (d2 : w2.data = .cell (some (.ref p1))) (d3 : w3.data = .cell (some (.ref p2))) (mw2 : (L + 1 + 1, w2) ∈ led) (mw3 : (L + 1 + 1 + 1, w3) ∈ led) (m1 : (p1, tup3 a1 b1 c1 t1 t2 t3) ∈ led) (m2 : (p2, tup3 a2 b2 c2 t4 t5 t6) ∈ led) (s : Shared) (Q : Value → Shared → Prop) (E : Value → Shared → Prop)
   (B : Below callerA h₀ [] h₀) (X : (Mine.hd.heap_1 w.params).In h₀) (T : Top VW LO mean mg mb h₀) (F : Fr h₀ L s.heap m) (N : News h₀ L s.heap ((C, oC) :: led))
   (hret : ∀ t h' tk', Fr h₀ L h' m → News h₀ L h' ((C, oC) :: led) → Q (.int (b1 + b2) t) { s with heap := h', toks := tk' }) :
    wpAny (model PySem.Challenge.rw_pg0251_01.row.prog w) (lawA w L aL cd) (eval (lcElt (lcB w)) (cEB w L aL cd C)) Q E s := by
  w_on; revert X; k_fill; intro X
  k_dflt (show wpAny _ (callerA.deeper (envOfC _ (Scope.mk _ _ _ _ _) _ _ _)) (eval (.BinOp _ _ _ _) (compEnvC (Scope.mk _ _ _ _ _) _ _ (envOfC _ (Scope.mk _ _ _ _ _) _ _ _))) _ _ _)
  (try dsimp only); (try k_fold)
  repeat' (first | ((with_reducible show wpAny _ _ (eval (Expr.Name _ _) _) _ _ _); (k_here; k_dflt (first | (refine' nameX_L ?zqk1 ?zqk2 ?_; (case zqk1 => k_asm); (case zqk2 => assumption)) | (refine' nameX_C ?zqN ?zqc ?zqm ?zqd ?_ ?zqa ?zqb; (case zqa => rfl); (case zqb => rfl); (case zqN => k_asm); (case zqc => rfl); (case zqm => k_mem); (case zqd => assumption); k_whole)))) | ((with_reducible show wpAny _ _ (exec (Stmt.For (Expr.Name _ _) (Expr.Name _ _) _ _ _) _) _ _ _); (k_here; (rename Fr _ _ _ _ => lF'); (with_unfolding_all refine' For_turns lF' ?_; k_whole))) | ((with_reducible show wpAny _ _ (call (Value.builtin "list.insert") _ _) _ _ _); ((with_reducible show wpAny _ _ (call _ (_ ++ _)) _ _ _); dsimp only [List.cons_append, List.nil_append])) | ((with_reducible show wpAny _ _ (subscriptTail _ _ (Value.ref _) _) _ _ _); (k_here; (with_reducible show wpAny _ _ (subscriptTail _ _ (Value.ref _) (Value.int _ _)) _ _ _); k_dflt (refine' sub_any ?zqk1 ?zqk2 ?zqkh ?zqk3 ?zqk4 ?zqk5 ?_; (case zqk1 => k_asm); (case zqk2 => k_mem); (case zqkh => first | exact .inr ⟨_, rfl⟩ | exact .inl ⟨_, rfl⟩); (case zqk3 => decide); (case zqk4 => decide); (case zqk5 => rfl)))) | ((with_reducible show wpAny _ _ (call (Value.builtin "min") _ _) _ _ _); (k_here; (with_reducible show wpAny _ _ (call (Value.builtin _) [Value.ref _]) _ _ _); k_dflt (refine' min3_list ?zqk0 ?zqk1 ?zqk2 ?zqk3 ?_; (case zqk0 => exact rfl); (case zqk1 => k_asm); (case zqk2 => k_asm); (case zqk3 => k_mem); k_whole); intro M' t' h' tk' F' N' m1' m2' m3' m4'; (try k_sweep))) | ((with_reducible show wpAny _ _ (call (Value.builtin "max") _ _) _ _ _); (k_here; (with_reducible show wpAny _ _ (call (Value.builtin _) [Value.ref _]) _ _ _); k_dflt (refine' max3_list ?zqk0 ?zqk1 ?zqk2 ?zqk3 ?_; (case zqk0 => exact rfl); (case zqk1 => k_asm); (case zqk2 => k_asm); (case zqk3 => k_mem); k_whole); intro M' t' h' tk' F' N' m1' m2' m3' m4'; (try k_sweep))) | (k_unfold; (try dsimp only)) | (k_end; wrow_close) | (walk1 <;> (try dsimp only) <;> (try walk_at "mine split")) | (dsimp only; walk1) | (leave1; walk_say "STEP leave1"; try dsimp only) | fail "no step")
  all_goals first
  | exact hret _ _ _ (by k_asm) (by first | exact sufN (by k_asm) [] rfl | exact sufN (by k_asm) [_] rfl | exact sufN (by k_asm) [_, _] rfl | exact sufN (by k_asm) [_, _, _] rfl | exact sufN (by k_asm) [_, _, _, _] rfl | exact sufN (by k_asm) [_, _, _, _, _] rfl | exact sufN (by k_asm) [_, _, _, _, _, _] rfl | exact sufN (by k_asm) [_, _, _, _, _, _, _] rfl | exact sufN (by k_asm) [_, _, _, _, _, _, _, _] rfl | exact sufN (by k_asm) [_, _, _, _, _, _, _, _, _] rfl | exact sufN (by k_asm) [_, _, _, _, _, _, _, _, _, _] rfl | exact sufN (by k_asm) [_, _, _, _, _, _, _, _, _, _, _] rfl | exact sufN (by k_asm) [_, _, _, _, _, _, _, _, _, _, _, _] rfl | exact sufN (by k_asm) [_, _, _, _, _, _, _, _, _, _, _, _, _] rfl | exact sufN (by k_asm) [_, _, _, _, _, _, _, _, _, _, _, _, _, _] rfl | exact sufN (by k_asm) [_, _, _, _, _, _, _, _, _, _, _, _, _, _, _] rfl)
  | skip

set_option maxRecDepth 100000 in
set_option maxHeartbeats 8000000 in
theorem eltB_2 (w : World) (mean mg mb) (h₀ : Heap) (L aL : Addr) (cd : Value) (m m₂ : Str → Option Value) (C p1 p2 : Addr) (oC w2 w3 : Obj) (a1 b1 c1 a2 b2 c2 : Int) (t1 t2 t3 t4 t5 t6 tk : Tok) (led : List (Addr × Obj))
   (hC : PyProof.Rows.LCg.NsObj oC m₂) (hv : m₂ "k" = some (.int 2 tk)) (d2 : w2.data = .cell (some (.ref p1))) (d3 : w3.data = .cell (some (.ref p2))) (mw2 : (L + 1 + 1, w2) ∈ led) (mw3 : (L + 1 + 1 + 1, w3) ∈ led) (m1 : (p1, tup3 a1 b1 c1 t1 t2 t3) ∈ led) (m2 : (p2, tup3 a2 b2 c2 t4 t5 t6) ∈ led) (s : Shared) (Q : Value → Shared → Prop) (E : Value → Shared → Prop)
   (B : Below callerA h₀ [] h₀) (X : (Mine.hd.heap_1 w.params).In h₀) (T : Top VW LO mean mg mb h₀) (F : Fr h₀ L s.heap m) (N : News h₀ L s.heap ((C, oC) :: led))
   (hret : ∀ t h' tk', Fr h₀ L h' m → News h₀ L h' ((C, oC) :: led) → Q (.int (c1 + c2) t) { s with heap := h', toks := tk' }) :
    wpAny (model PySem.Challenge.rw_pg0251_01.row.prog w) (lawA w L aL cd) (eval (lcElt (lcB w)) (cEB w L aL cd C)) Q E s := by
  w_on; revert X; k_fill; intro X
  k_dflt (show wpAny _ (callerA.deeper (envOfC _ (Scope.mk _ _ _ _ _) _ _ _)) (eval (.BinOp _ _ _ _) (compEnvC (Scope.mk _ _ _ _ _) _ _ (envOfC _ (Scope.mk _ _ _ _ _) _ _ _))) _ _ _)
  (try dsimp only); (try k_fold)
  repeat' (first | ((with_reducible show wpAny _ _ (eval (Expr.Name _ _) _) _ _ _); (k_here; k_dflt (first | (refine' nameX_L ?zqk1 ?zqk2 ?_; (case zqk1 => k_asm); (case zqk2 => assumption)) | (refine' nameX_C ?zqN ?zqc ?zqm ?zqd ?_ ?zqa ?zqb; (case zqa => rfl); (case zqb => rfl); (case zqN => k_asm); (case zqc => rfl); (case zqm => k_mem); (case zqd => assumption); k_whole)))) | ((with_reducible show wpAny _ _ (exec (Stmt.For (Expr.Name _ _) (Expr.Name _ _) _ _ _) _) _ _ _); (k_here; (rename Fr _ _ _ _ => lF'); (with_unfolding_all refine' For_turns lF' ?_; k_whole))) | ((with_reducible show wpAny _ _ (call (Value.builtin "list.insert") _ _) _ _ _); ((with_reducible show wpAny _ _ (call _ (_ ++ _)) _ _ _); dsimp only [List.cons_append, List.nil_append])) | ((with_reducible show wpAny _ _ (subscriptTail _ _ (Value.ref _) _) _ _ _); (k_here; (with_reducible show wpAny _ _ (subscriptTail _ _ (Value.ref _) (Value.int _ _)) _ _ _); k_dflt (refine' sub_any ?zqk1 ?zqk2 ?zqkh ?zqk3 ?zqk4 ?zqk5 ?_; (case zqk1 => k_asm); (case zqk2 => k_mem); (case zqkh => first | exact .inr ⟨_, rfl⟩ | exact .inl ⟨_, rfl⟩); (case zqk3 => decide); (case zqk4 => decide); (case zqk5 => rfl)))) | ((with_reducible show wpAny _ _ (call (Value.builtin "min") _ _) _ _ _); (k_here; (with_reducible show wpAny _ _ (call (Value.builtin _) [Value.ref _]) _ _ _); k_dflt (refine' min3_list ?zqk0 ?zqk1 ?zqk2 ?zqk3 ?_; (case zqk0 => exact rfl); (case zqk1 => k_asm); (case zqk2 => k_asm); (case zqk3 => k_mem); k_whole); intro M' t' h' tk' F' N' m1' m2' m3' m4'; (try k_sweep))) | ((with_reducible show wpAny _ _ (call (Value.builtin "max") _ _) _ _ _); (k_here; (with_reducible show wpAny _ _ (call (Value.builtin _) [Value.ref _]) _ _ _); k_dflt (refine' max3_list ?zqk0 ?zqk1 ?zqk2 ?zqk3 ?_; (case zqk0 => exact rfl); (case zqk1 => k_asm); (case zqk2 => k_asm); (case zqk3 => k_mem); k_whole); intro M' t' h' tk' F' N' m1' m2' m3' m4'; (try k_sweep))) | (k_unfold; (try dsimp only)) | (k_end; wrow_close) | (walk1 <;> (try dsimp only) <;> (try walk_at "mine split")) | (dsimp only; walk1) | (leave1; walk_say "STEP leave1"; try dsimp only) | fail "no step")
  all_goals first
  | exact hret _ _ _ (by k_asm) (by first | exact sufN (by k_asm) [] rfl | exact sufN (by k_asm) [_] rfl | exact sufN (by k_asm) [_, _] rfl | exact sufN (by k_asm) [_, _, _] rfl | exact sufN (by k_asm) [_, _, _, _] rfl | exact sufN (by k_asm) [_, _, _, _, _] rfl | exact sufN (by k_asm) [_, _, _, _, _, _] rfl | exact sufN (by k_asm) [_, _, _, _, _, _, _] rfl | exact sufN (by k_asm) [_, _, _, _, _, _, _, _] rfl | exact sufN (by k_asm) [_, _, _, _, _, _, _, _, _] rfl | exact sufN (by k_asm) [_, _, _, _, _, _, _, _, _, _] rfl | exact sufN (by k_asm) [_, _, _, _, _, _, _, _, _, _, _] rfl | exact sufN (by k_asm) [_, _, _, _, _, _, _, _, _, _, _, _] rfl | exact sufN (by k_asm) [_, _, _, _, _, _, _, _, _, _, _, _, _] rfl | exact sufN (by k_asm) [_, _, _, _, _, _, _, _, _, _, _, _, _, _] rfl | exact sufN (by k_asm) [_, _, _, _, _, _, _, _, _, _, _, _, _, _, _] rfl)
  | skip

set_option maxRecDepth 100000 in
set_option maxHeartbeats 8000000 in
theorem eltT (w : World) (mean mg mb) (h₀ : Heap) (L aL : Addr) (cd : Value) (m m₂ : Str → Option Value) (C bl : Addr) (oC w4 : Obj) (a b c n : Int) (t1 t2 t3 tk : Tok) (led : List (Addr × Obj))
   (hC : PyProof.Rows.LCg.NsObj oC m₂) (hv : m₂ "part" = some (.int n tk)) (d4 : w4.data = .cell (some (.ref bl))) (mw4 : (L + 1 + 1 + 1 + 1, w4) ∈ led) (mbl : (bl, ({ cls := .type "list", data := .seq #[.int a t1, .int b t2, .int c t3] 3 } : Obj)) ∈ led) (s : Shared) (Q : Value → Shared → Prop) (E : Value → Shared → Prop)
   (B : Below callerA h₀ [] h₀) (X : (Mine.hd.heap_1 w.params).In h₀) (T : Top VW LO mean mg mb h₀) (F : Fr h₀ L s.heap m) (N : News h₀ L s.heap ((C, oC) :: led))
   (hret : ∀ M t h' tk', MxP a b c M → Fr h₀ L h' m → News h₀ L h' ((C, oC) :: led) → Q (.int (M - n) t) { s with heap := h', toks := tk' }) :
    wpAny (model PySem.Challenge.rw_pg0251_01.row.prog w) (lawA w L aL cd) (eval (lcElt (lcT w)) (cET w L aL cd C)) Q E s := by
  w_on; revert X; k_fill; intro X
  k_dflt (show wpAny _ (callerA.deeper (envOfC _ (Scope.mk _ _ _ _ _) _ _ _)) (eval (.BinOp _ _ _ _) (compEnvC (Scope.mk _ _ _ _ _) _ _ (envOfC _ (Scope.mk _ _ _ _ _) _ _ _))) _ _ _)
  (try dsimp only); (try k_fold)
  repeat' (first | ((with_reducible show wpAny _ _ (eval (Expr.Name _ _) _) _ _ _); (k_here; k_dflt (first | (refine' nameX_L ?zqk1 ?zqk2 ?_; (case zqk1 => k_asm); (case zqk2 => assumption)) | (refine' nameX_C ?zqN ?zqc ?zqm ?zqd ?_ ?zqa ?zqb; (case zqa => rfl); (case zqb => rfl); (case zqN => k_asm); (case zqc => rfl); (case zqm => k_mem); (case zqd => assumption); k_whole)))) | ((with_reducible show wpAny _ _ (exec (Stmt.For (Expr.Name _ _) (Expr.Name _ _) _ _ _) _) _ _ _); (k_here; (rename Fr _ _ _ _ => lF'); (with_unfolding_all refine' For_turns lF' ?_; k_whole))) | ((with_reducible show wpAny _ _ (call (Value.builtin "list.insert") _ _) _ _ _); ((with_reducible show wpAny _ _ (call _ (_ ++ _)) _ _ _); dsimp only [List.cons_append, List.nil_append])) | ((with_reducible show wpAny _ _ (subscriptTail _ _ (Value.ref _) _) _ _ _); (k_here; (with_reducible show wpAny _ _ (subscriptTail _ _ (Value.ref _) (Value.int _ _)) _ _ _); k_dflt (refine' sub_any ?zqk1 ?zqk2 ?zqkh ?zqk3 ?zqk4 ?zqk5 ?_; (case zqk1 => k_asm); (case zqk2 => k_mem); (case zqkh => first | exact .inr ⟨_, rfl⟩ | exact .inl ⟨_, rfl⟩); (case zqk3 => decide); (case zqk4 => decide); (case zqk5 => rfl)))) | ((with_reducible show wpAny _ _ (call (Value.builtin "min") _ _) _ _ _); (k_here; (with_reducible show wpAny _ _ (call (Value.builtin _) [Value.ref _]) _ _ _); k_dflt (refine' min3_list ?zqk0 ?zqk1 ?zqk2 ?zqk3 ?_; (case zqk0 => exact rfl); (case zqk1 => k_asm); (case zqk2 => k_asm); (case zqk3 => k_mem); k_whole); intro M' t' h' tk' F' N' m1' m2' m3' m4'; (try k_sweep))) | ((with_reducible show wpAny _ _ (call (Value.builtin "max") _ _) _ _ _); (k_here; (with_reducible show wpAny _ _ (call (Value.builtin _) [Value.ref _]) _ _ _); k_dflt (refine' max3_list ?zqk0 ?zqk1 ?zqk2 ?zqk3 ?_; (case zqk0 => exact rfl); (case zqk1 => k_asm); (case zqk2 => k_asm); (case zqk3 => k_mem); k_whole); intro M' t' h' tk' F' N' m1' m2' m3' m4'; (try k_sweep))) | (k_unfold; (try dsimp only)) | (k_end; wrow_close) | (walk1 <;> (try dsimp only) <;> (try walk_at "mine split")) | (dsimp only; walk1) | (leave1; walk_say "STEP leave1"; try dsimp only) | fail "no step")
  all_goals first
  | exact hret _ _ _ _ ⟨by assumption, by assumption, by assumption, by assumption⟩ (by k_asm) (by first | exact sufN (by k_asm) [] rfl | exact sufN (by k_asm) [_] rfl | exact sufN (by k_asm) [_, _] rfl | exact sufN (by k_asm) [_, _, _] rfl | exact sufN (by k_asm) [_, _, _, _] rfl | exact sufN (by k_asm) [_, _, _, _, _] rfl | exact sufN (by k_asm) [_, _, _, _, _, _] rfl | exact sufN (by k_asm) [_, _, _, _, _, _, _] rfl | exact sufN (by k_asm) [_, _, _, _, _, _, _, _] rfl | exact sufN (by k_asm) [_, _, _, _, _, _, _, _, _] rfl | exact sufN (by k_asm) [_, _, _, _, _, _, _, _, _, _] rfl | exact sufN (by k_asm) [_, _, _, _, _, _, _, _, _, _, _] rfl | exact sufN (by k_asm) [_, _, _, _, _, _, _, _, _, _, _, _] rfl | exact sufN (by k_asm) [_, _, _, _, _, _, _, _, _, _, _, _, _] rfl | exact sufN (by k_asm) [_, _, _, _, _, _, _, _, _, _, _, _, _, _] rfl | exact sufN (by k_asm) [_, _, _, _, _, _, _, _, _, _, _, _, _, _, _] rfl)
  | skip

set_option maxRecDepth 100000 in
set_option maxHeartbeats 8000000 in
theorem itT (w : World) (mean mg mb) (h₀ : Heap) (L aL : Addr) (cd : Value) (m : Str → Option Value) (bl : Addr) (w4 : Obj) (led : List (Addr × Obj))
   (d4 : w4.data = .cell (some (.ref bl))) (mw4 : (L + 1 + 1 + 1 + 1, w4) ∈ led) (s : Shared) (Q : Value → Shared → Prop) (E : Value → Shared → Prop)
   (B : Below callerA h₀ [] h₀) (X : (Mine.hd.heap_1 w.params).In h₀) (T : Top VW LO mean mg mb h₀) (F : Fr h₀ L s.heap m) (N : News h₀ L s.heap led)
   (hret : ∀ h' tk', Fr h₀ L h' m → News h₀ L h' led → Q (.ref bl) { s with heap := h', toks := tk' }) :
    wpAny (model PySem.Challenge.rw_pg0251_01.row.prog w) (lawA w L aL cd) (eval (lcIter (lcT w) 0) (lawE w L aL cd)) Q E s := by
  w_on; revert X; k_fill; intro X
  k_dflt (show wpAny _ (callerA.deeper (envOfC _ (Scope.mk _ _ _ _ _) _ _ _)) (eval (.Name _ _) (envOfC _ (Scope.mk _ _ _ _ _) _ _ _)) _ _ _)
  (try dsimp only); (try k_fold)
  repeat' (first | ((with_reducible show wpAny _ _ (eval (Expr.Name _ _) _) _ _ _); (k_here; k_dflt (first | (refine' nameX_L ?zqk1 ?zqk2 ?_; (case zqk1 => k_asm); (case zqk2 => assumption)) | (refine' nameX_C ?zqN ?zqc ?zqm ?zqd ?_ ?zqa ?zqb; (case zqa => rfl); (case zqb => rfl); (case zqN => k_asm); (case zqc => rfl); (case zqm => k_mem); (case zqd => assumption); k_whole)))) | ((with_reducible show wpAny _ _ (exec (Stmt.For (Expr.Name _ _) (Expr.Name _ _) _ _ _) _) _ _ _); (k_here; (rename Fr _ _ _ _ => lF'); (with_unfolding_all refine' For_turns lF' ?_; k_whole))) | ((with_reducible show wpAny _ _ (call (Value.builtin "list.insert") _ _) _ _ _); ((with_reducible show wpAny _ _ (call _ (_ ++ _)) _ _ _); dsimp only [List.cons_append, List.nil_append])) | ((with_reducible show wpAny _ _ (subscriptTail _ _ (Value.ref _) _) _ _ _); (k_here; (with_reducible show wpAny _ _ (subscriptTail _ _ (Value.ref _) (Value.int _ _)) _ _ _); k_dflt (refine' sub_any ?zqk1 ?zqk2 ?zqkh ?zqk3 ?zqk4 ?zqk5 ?_; (case zqk1 => k_asm); (case zqk2 => k_mem); (case zqkh => first | exact .inr ⟨_, rfl⟩ | exact .inl ⟨_, rfl⟩); (case zqk3 => decide); (case zqk4 => decide); (case zqk5 => rfl)))) | ((with_reducible show wpAny _ _ (call (Value.builtin "min") _ _) _ _ _); (k_here; (with_reducible show wpAny _ _ (call (Value.builtin _) [Value.ref _]) _ _ _); k_dflt (refine' min3_list ?zqk0 ?zqk1 ?zqk2 ?zqk3 ?_; (case zqk0 => exact rfl); (case zqk1 => k_asm); (case zqk2 => k_asm); (case zqk3 => k_mem); k_whole); intro M' t' h' tk' F' N' m1' m2' m3' m4'; (try k_sweep))) | ((with_reducible show wpAny _ _ (call (Value.builtin "max") _ _) _ _ _); (k_here; (with_reducible show wpAny _ _ (call (Value.builtin _) [Value.ref _]) _ _ _); k_dflt (refine' max3_list ?zqk0 ?zqk1 ?zqk2 ?zqk3 ?_; (case zqk0 => exact rfl); (case zqk1 => k_asm); (case zqk2 => k_asm); (case zqk3 => k_mem); k_whole); intro M' t' h' tk' F' N' m1' m2' m3' m4'; (try k_sweep))) | (k_unfold; (try dsimp only)) | (k_end; wrow_close) | (walk1 <;> (try dsimp only) <;> (try walk_at "mine split")) | (dsimp only; walk1) | (leave1; walk_say "STEP leave1"; try dsimp only) | fail "no step")
  all_goals exact hret _ _ (by k_asm) (by k_asm)

set_option maxRecDepth 100000 in
set_option maxHeartbeats 8000000 in
theorem itB (w : World) (mean mg mb) (h₀ : Heap) (L aL : Addr) (cd : Value) (m : Str → Option Value)  (led : List (Addr × Obj))
    (s : Shared) (Q : Value → Shared → Prop) (E : Value → Shared → Prop)
   (B : Below callerA h₀ [] h₀) (X : (Mine.hd.heap_1 w.params).In h₀) (T : Top VW LO mean mg mb h₀) (F : Fr h₀ L s.heap m) (N : News h₀ L s.heap led)
   (hret : ∀ r t u v h' tk', IsRange h' r 0 3 1 t u v → Fr h₀ L h' m → News h₀ L h' led → Q (.ref r) { s with heap := h', toks := tk' }) :
    wpAny (model PySem.Challenge.rw_pg0251_01.row.prog w) (lawA w L aL cd) (eval (lcIter (lcB w) 0) (lawE w L aL cd)) Q E s := by
  w_on; revert X; k_fill; intro X
  k_dflt (show wpAny _ (callerA.deeper (envOfC _ (Scope.mk _ _ _ _ _) _ _ _)) (eval (.Call _ _ _ _) (envOfC _ (Scope.mk _ _ _ _ _) _ _ _)) _ _ _)
  (try dsimp only); (try k_fold)
  repeat' (first | ((with_reducible show wpAny _ _ (eval (Expr.Name _ _) _) _ _ _); (k_here; k_dflt (first | (refine' nameX_L ?zqk1 ?zqk2 ?_; (case zqk1 => k_asm); (case zqk2 => assumption)) | (refine' nameX_C ?zqN ?zqc ?zqm ?zqd ?_ ?zqa ?zqb; (case zqa => rfl); (case zqb => rfl); (case zqN => k_asm); (case zqc => rfl); (case zqm => k_mem); (case zqd => assumption); k_whole)))) | ((with_reducible show wpAny _ _ (exec (Stmt.For (Expr.Name _ _) (Expr.Name _ _) _ _ _) _) _ _ _); (k_here; (rename Fr _ _ _ _ => lF'); (with_unfolding_all refine' For_turns lF' ?_; k_whole))) | ((with_reducible show wpAny _ _ (call (Value.builtin "list.insert") _ _) _ _ _); ((with_reducible show wpAny _ _ (call _ (_ ++ _)) _ _ _); dsimp only [List.cons_append, List.nil_append])) | ((with_reducible show wpAny _ _ (subscriptTail _ _ (Value.ref _) _) _ _ _); (k_here; (with_reducible show wpAny _ _ (subscriptTail _ _ (Value.ref _) (Value.int _ _)) _ _ _); k_dflt (refine' sub_any ?zqk1 ?zqk2 ?zqkh ?zqk3 ?zqk4 ?zqk5 ?_; (case zqk1 => k_asm); (case zqk2 => k_mem); (case zqkh => first | exact .inr ⟨_, rfl⟩ | exact .inl ⟨_, rfl⟩); (case zqk3 => decide); (case zqk4 => decide); (case zqk5 => rfl)))) | ((with_reducible show wpAny _ _ (call (Value.builtin "min") _ _) _ _ _); (k_here; (with_reducible show wpAny _ _ (call (Value.builtin _) [Value.ref _]) _ _ _); k_dflt (refine' min3_list ?zqk0 ?zqk1 ?zqk2 ?zqk3 ?_; (case zqk0 => exact rfl); (case zqk1 => k_asm); (case zqk2 => k_asm); (case zqk3 => k_mem); k_whole); intro M' t' h' tk' F' N' m1' m2' m3' m4'; (try k_sweep))) | ((with_reducible show wpAny _ _ (call (Value.builtin "max") _ _) _ _ _); (k_here; (with_reducible show wpAny _ _ (call (Value.builtin _) [Value.ref _]) _ _ _); k_dflt (refine' max3_list ?zqk0 ?zqk1 ?zqk2 ?zqk3 ?_; (case zqk0 => exact rfl); (case zqk1 => k_asm); (case zqk2 => k_asm); (case zqk3 => k_mem); k_whole); intro M' t' h' tk' F' N' m1' m2' m3' m4'; (try k_sweep))) | (k_unfold; (try dsimp only)) | (k_end; wrow_close) | (walk1 <;> (try dsimp only) <;> (try walk_at "mine split")) | (dsimp only; walk1) | (leave1; walk_say "STEP leave1"; try dsimp only) | fail "no step")
  all_goals first
  | exact hret _ _ _ _ _ _ (by assumption) (by k_asm) (by k_asm)
  | skip
end
section
open PyProof.Rows.LCg
theorem lcB_eq (w : World) : ∃ p, lcB w = .ListComp (lcElt (lcB w)) [⟨.Name (Str.ofString "k") p, lcIter (lcB w) 0, [], 0⟩] (lcScope (lcB w)) (lcPos (lcB w)) := ⟨_, rfl⟩
theorem lcT_eq (w : World) : ∃ p, lcT w = .ListComp (lcElt (lcT w)) [⟨.Name (Str.ofString "part") p, lcIter (lcT w) 0, [], 0⟩] (lcScope (lcT w)) (lcPos (lcT w)) := ⟨_, rfl⟩
theorem lt3 {i : Nat} (h : i < 3) : i = 0 ∨ i = 1 ∨ i = 2 := by (first | lia | omega)
set_option maxHeartbeats 8000000 in
/-- both -/
theorem bothC (w : World) (mean mg mb) {h₀ : Heap} {L aL : Addr} {cd : Value} {m : Str → Option Value} {led : List (Addr × Obj)} {p1 p2 : Addr} {w2 w3 : Obj} {a1 b1 c1 a2 b2 c2 : Int} {t1 t2 t3 t4 t5 t6 : Tok} {s : Shared} {Q : Value → Shared → Prop} {E : Value → Shared → Prop}
    (B : Below callerA h₀ [] h₀) (X : (Mine.hd.heap_1 w.params).In h₀) (T : Top VW LO mean mg mb h₀) (F : Fr h₀ L s.heap m) (N : News h₀ L s.heap led)
    (d2 : w2.data = .cell (some (.ref p1))) (d3 : w3.data = .cell (some (.ref p2))) (mw2 : (L + 1 + 1, w2) ∈ led) (mw3 : (L + 1 + 1 + 1, w3) ∈ led) (m1 : (p1, tup3 a1 b1 c1 t1 t2 t3) ∈ led) (m2 : (p2, tup3 a2 b2 c2 t4 t5 t6) ∈ led)
    (hret : ∀ D u1 u2 u3 h' tk', Fr h₀ L h' m → News h₀ L h' ((D, ({ cls := .type "list", data := .seq #[.int (a1 + a2) u1, .int (b1 + b2) u2, .int (c1 + c2) u3] 3 } : Obj)) :: led) → (∀ p ∈ led, p.1 ≠ D) → Q (.ref D) { s with heap := h', toks := tk' }) :
    wpAny (model PySem.Challenge.rw_pg0251_01.row.prog w) (lawA w L aL cd) (eval (lcB w) (lawE w L aL cd)) Q E s := by
  obtain ⟨p, el⟩ := lcB_eq w
  rw [el]
  refine one_comp (env := lawE w L aL cd) (base := led) (cl := cloB L) (m := m) (h₀ := h₀) (L := L) (closB w L aL cd) (by rw [lcB_names]; decide) (by rfl) (by rw [lcB_names]; decide) (by rw [lcB_names]; decide) ?_ (by intro _; rfl)
  refine itB w mean mg mb h₀ L aL cd m led s _ _ B X T F N fun r t u v h₁ tk₁ hr F₁ N₁ => ?_
  refine ⟨3, _, _, fun i y no => no = [] ∧ ∃ t, y = .int ([a1 + a2, b1 + b2, c1 + c2].getD i 0) t, Source.range (a := 0) (b := 3) (by rfl) hr (by decide) (by decide), Nat.le_of_ble_eq_true rfl, (fun a ha => nomatch ha), F₁, N₁, ?_, ?_⟩
  · intro i v hi hv C oC m₂ h tk led' E' hC hmv F N hb hbC
    obtain ⟨t, rfl⟩ := hv
    rcases lt3 hi with rfl | rfl | rfl
    · exact eltB_0 w mean mg mb h₀ L aL cd m m₂ C p1 p2 oC w2 w3 a1 b1 c1 a2 b2 c2 t1 t2 t3 t4 t5 t6 t led' hC hmv d2 d3 (hb _ mw2) (hb _ mw3) (hb _ m1) (hb _ m2) { s with heap := h, toks := tk } _ _ B X T F N fun t h' tk' F' N' => ⟨[], h', tk', rfl, F', N', (fun q hq => nomatch hq), rfl, t, rfl⟩
    · exact eltB_1 w mean mg mb h₀ L aL cd m m₂ C p1 p2 oC w2 w3 a1 b1 c1 a2 b2 c2 t1 t2 t3 t4 t5 t6 t led' hC hmv d2 d3 (hb _ mw2) (hb _ mw3) (hb _ m1) (hb _ m2) { s with heap := h, toks := tk } _ _ B X T F N fun t h' tk' F' N' => ⟨[], h', tk', rfl, F', N', (fun q hq => nomatch hq), rfl, t, rfl⟩
    · exact eltB_2 w mean mg mb h₀ L aL cd m m₂ C p1 p2 oC w2 w3 a1 b1 c1 a2 b2 c2 t1 t2 t3 t4 t5 t6 t led' hC hmv d2 d3 (hb _ mw2) (hb _ mw3) (hb _ m1) (hb _ m2) { s with heap := h, toks := tk } _ _ B X T F N fun t h' tk' F' N' => ⟨[], h', tk', rfl, F', N', (fun q hq => nomatch hq), rfl, t, rfl⟩
  · intro D ys objs h' tk' F' N' off md
    obtain ⟨_, _, _, _, rfl, rfl, e2, rfl, u3, rfl⟩ := md.inv
    obtain ⟨_, _, _, _, rfl, rfl, e1, rfl, u2, rfl⟩ := e2.inv
    obtain ⟨_, _, _, _, rfl, rfl, e0, rfl, u1, rfl⟩ := e1.inv
    obtain ⟨rfl, rfl⟩ := e0.inv0
    simp only [List.append_nil] at N' off
    exact hret D u1 u2 u3 h' tk' F' N' off
set_option maxHeartbeats 8000000 in
/-- the third paint's figures -/
theorem thirdC (w : World) (mean mg mb) {h₀ : Heap} {L aL : Addr} {cd : Value} {m : Str → Option Value} {led : List (Addr × Obj)} {bl : Addr} {w4 : Obj} {a b c : Int} {t1 t2 t3 : Tok} {s : Shared} {Q : Value → Shared → Prop} {E : Value → Shared → Prop}
    (B : Below callerA h₀ [] h₀) (X : (Mine.hd.heap_1 w.params).In h₀) (T : Top VW LO mean mg mb h₀) (F : Fr h₀ L s.heap m) (N : News h₀ L s.heap led)
    (d4 : w4.data = .cell (some (.ref bl))) (mw4 : (L + 1 + 1 + 1 + 1, w4) ∈ led) (mbl : (bl, ({ cls := .type "list", data := .seq #[.int a t1, .int b t2, .int c t3] 3 } : Obj)) ∈ led)
    (hret : ∀ D M u1 u2 u3 h' tk', MxP a b c M → Fr h₀ L h' m → News h₀ L h' ((D, ({ cls := .type "list", data := .seq #[.int (M - a) u1, .int (M - b) u2, .int (M - c) u3] 3 } : Obj)) :: led) → (∀ p ∈ led, p.1 ≠ D) → Q (.ref D) { s with heap := h', toks := tk' }) :
    wpAny (model PySem.Challenge.rw_pg0251_01.row.prog w) (lawA w L aL cd) (eval (lcT w) (lawE w L aL cd)) Q E s := by
  obtain ⟨p, el⟩ := lcT_eq w
  rw [el]
  refine one_comp (env := lawE w L aL cd) (base := led) (cl := cloT L) (m := m) (h₀ := h₀) (L := L) (closT w L aL cd) (by rw [lcT_names]; decide) (by rfl) (by rw [lcT_names]; decide) (by rw [lcT_names]; decide) ?_ (by intro _; rfl)
  refine itT w mean mg mb h₀ L aL cd m bl w4 led d4 mw4 s _ _ B X T F N fun h₁ tk₁ F₁ N₁ => ?_
  have hl : h₁.IsList bl #[.int a t1, .int b t2, .int c t3] := ⟨_, (N₁ _ mbl).1, rfl, _, rfl⟩
  refine ⟨3, _, _, fun i y no => no = [] ∧ ∃ M t, MxP a b c M ∧ y = .int (M - [a, b, c].getD i 0) t, Source.list (by rfl) hl, Nat.le_of_ble_eq_true rfl, fun x hx => by rw [List.mem_singleton.mp hx]; exact (N₁ _ mbl).2.1, F₁, N₁, ?_, ?_⟩
  · intro i v hi hv C oC m₂ h tk led' E' hC hmv F N hb hbC
    rcases lt3 hi with rfl | rfl | rfl
    · have e := Option.some.inj hv; subst e
      exact eltT w mean mg mb h₀ L aL cd m m₂ C bl oC w4 a b c a t1 t2 t3 t1 led' hC hmv d4 (hb _ mw4) (hb _ mbl) { s with heap := h, toks := tk } _ _ B X T F N fun M t h' tk' hM F' N' => ⟨[], h', tk', rfl, F', N', (fun q hq => nomatch hq), rfl, M, t, hM, rfl⟩
    · have e := Option.some.inj hv; subst e
      exact eltT w mean mg mb h₀ L aL cd m m₂ C bl oC w4 a b c b t1 t2 t3 t2 led' hC hmv d4 (hb _ mw4) (hb _ mbl) { s with heap := h, toks := tk } _ _ B X T F N fun M t h' tk' hM F' N' => ⟨[], h', tk', rfl, F', N', (fun q hq => nomatch hq), rfl, M, t, hM, rfl⟩
    · have e := Option.some.inj hv; subst e
      exact eltT w mean mg mb h₀ L aL cd m m₂ C bl oC w4 a b c c t1 t2 t3 t3 led' hC hmv d4 (hb _ mw4) (hb _ mbl) { s with heap := h, toks := tk } _ _ B X T F N fun M t h' tk' hM F' N' => ⟨[], h', tk', rfl, F', N', (fun q hq => nomatch hq), rfl, M, t, hM, rfl⟩
  · intro D ys objs h' tk' F' N' off md
    obtain ⟨_, _, _, _, rfl, rfl, e2, rfl, M3, u3, hM3, rfl⟩ := md.inv
    obtain ⟨_, _, _, _, rfl, rfl, e1, rfl, M2, u2, hM2, rfl⟩ := e2.inv
    obtain ⟨_, _, _, _, rfl, rfl, e0, rfl, M1, u1, hM1, rfl⟩ := e1.inv
    obtain ⟨rfl, rfl⟩ := e0.inv0
    have e1 : M2 = M1 := by unfold MxP at hM1 hM2; (first | lia | omega)
    have e2 : M3 = M1 := by unfold MxP at hM1 hM3; (first | lia | omega)
    subst e1; subst e2
    simp only [List.append_nil] at N' off
    exact hret D _ u1 u2 u3 h' tk' hM1 F' N' off
end
section
noncomputable def tupElt (e : Expr) (i : Nat) : Expr := match e with
  | .Tuple es _ _ => es.getD i (.Constant .none 0 default)
  | _ => .Constant .none 0 default
noncomputable def lc3 (w : World) : Expr := callArg (assignVal ((fnBody (lawO w)).getD 3 (.Pass default))) 0
noncomputable def lcS (w : World) : Expr := callArg (tupElt (lcElt (lc3 w)) 1) 0
theorem lc3_names (w : World) : (lcScope (lc3 w)).names = [(Str.ofString ".0", .local), (Str.ofString "k", .local), (Str.ofString "name", .local), (Str.ofString "pots", .free)] := rfl
theorem lcS_names (w : World) : (lcScope (lcS w)).names = [(Str.ofString ".0", .local), (Str.ofString "part", .local), (Str.ofString "str", .globalImplicit)] := rfl
noncomputable abbrev clo3 (L : Addr) : List (Str × Addr) := [(Str.ofString "pots", L + 1)]
theorem clos3 (w : World) (L aL : Addr) (cd : Value) : closureFor (lcScope (lc3 w)) (lawE w L aL cd) = pure (clo3 L) := rfl
noncomputable abbrev cE3 (w : World) (L aL : Addr) (cd : Value) (C : Addr) : Env := compEnvC (lcScope (lc3 w)) (clo3 L) C (lawE w L aL cd)
theorem closS (w : World) (L aL : Addr) (cd : Value) (C : Addr) : closureFor (lcScope (lcS w)) (cE3 w L aL cd C) = pure [] := rfl
noncomputable abbrev cES (w : World) (L aL : Addr) (cd : Value) (C C' : Addr) : Env := compEnvC (lcScope (lcS w)) [] C' (cE3 w L aL cd C)
theorem index_at {prog : Program} {w : World} {A : Around} {E : Value → Shared → Prop} {s : Shared} {x y : Str} {t u : Tok} {Q : Value → Shared → Prop} (k : Int) (hA : A.handled = none) (hf : Txt.find x y = k) (hk : 0 ≤ k) (h : ∀ u tk, Q (.int k u) { s with toks := tk }) :
    wpAny (model prog w) A (call (.builtin "str.index") [.str x t, .str y u]) Q E s :=
  index_or hA (fun e _ => absurd (hf.symm.trans e) (by omega)) (fun _ _ => by rw [hf]; exact h _ _)

set_option maxRecDepth 100000 in
set_option maxHeartbeats 8000000 in
theorem eltS (w : World) (mean mg mb) (h₀ : Heap) (L aL : Addr) (cd : Value) (m m₂ : Str → Option Value) (C C' : Addr) (oC : Obj) (n : Int) (tk : Tok) (led : List (Addr × Obj))
   (hC : PyProof.Rows.LCg.NsObj oC m₂) (hv : m₂ "part" = some (.int n tk)) (hn : 0 ≤ n ∧ n ≤ 8) (s : Shared) (Q : Value → Shared → Prop) (E : Value → Shared → Prop)
   (B : Below callerA h₀ [] h₀) (X : (Mine.hd.heap_1 w.params).In h₀) (T : Top VW LO mean mg mb h₀) (F : Fr h₀ L s.heap m) (N : News h₀ L s.heap ((C', oC) :: led))
   (hret : ∀ t h' tk', Fr h₀ L h' m → News h₀ L h' ((C', oC) :: led) → Q (.str (Str.ofString (toString n)) t) { s with heap := h', toks := tk' }) :
    wpAny (model PySem.Challenge.rw_pg0251_01.row.prog w) (lawA w L aL cd) (eval (lcElt (lcS w)) (cES w L aL cd C C')) Q E s := by
  w_on; revert X; k_fill; intro X
  k_dflt (show wpAny _ (callerA.deeper (envOfC _ (Scope.mk _ _ _ _ _) _ _ _)) (eval (.Call _ _ _ _) (compEnvC (Scope.mk _ _ _ _ _) _ _ (compEnvC (Scope.mk _ _ _ _ _) _ _ (envOfC _ (Scope.mk _ _ _ _ _) _ _ _)))) _ _ _)
  (try dsimp only); (try k_fold)
  repeat' (first | ((with_reducible show wpAny _ _ (call (Value.builtin "str.index") _ _) _ _ _); (k_here; (try dsimp only [List.cons_append, List.nil_append]); k_dflt (first | (refine' index_at 0 ?zqa ?zqb ?zqc ?_; (case zqa => exact rfl); (case zqb => decide +kernel); (case zqc => decide)) | (refine' index_at 1 ?zqa ?zqb ?zqc ?_; (case zqa => exact rfl); (case zqb => decide +kernel); (case zqc => decide)) | (refine' index_at 2 ?zqa ?zqb ?zqc ?_; (case zqa => exact rfl); (case zqb => decide +kernel); (case zqc => decide))); intro u' tk'; (try dsimp only); (try k_fold))) | ((with_reducible show wpAny _ _ (call (Value.builtin "str.index") _ _) _ _ _); (k_here; k_dflt (first | (refine' index_at 0 ?zqa ?zqb ?zqc ?_; (case zqa => exact rfl); (case zqb => decide +kernel); (case zqc => decide)) | (refine' index_at 1 ?zqa ?zqb ?zqc ?_; (case zqa => exact rfl); (case zqb => decide +kernel); (case zqc => decide)) | (refine' index_at 2 ?zqa ?zqb ?zqc ?_; (case zqa => exact rfl); (case zqb => decide +kernel); (case zqc => decide))); intro u' tk'; (try dsimp only); (try k_fold))) | ((with_reducible show wpAny _ _ (eval (Expr.Name _ _) _) _ _ _); (k_here; k_dflt (first | (refine' nameX_L ?zqk1 ?zqk2 ?_; (case zqk1 => k_asm); (case zqk2 => assumption)) | (refine' nameX_C ?zqN ?zqc ?zqm ?zqd ?_ ?zqa ?zqb; (case zqa => rfl); (case zqb => rfl); (case zqN => k_asm); (case zqc => rfl); (case zqm => k_mem); (case zqd => assumption); k_whole)))) | ((with_reducible show wpAny _ _ (exec (Stmt.For (Expr.Name _ _) (Expr.Name _ _) _ _ _) _) _ _ _); (k_here; (rename Fr _ _ _ _ => lF'); (with_unfolding_all refine' For_turns lF' ?_; k_whole))) | ((with_reducible show wpAny _ _ (call (Value.builtin "list.insert") _ _) _ _ _); ((with_reducible show wpAny _ _ (call _ (_ ++ _)) _ _ _); dsimp only [List.cons_append, List.nil_append])) | ((with_reducible show wpAny _ _ (subscriptTail _ _ (Value.ref _) _) _ _ _); (k_here; (with_reducible show wpAny _ _ (subscriptTail _ _ (Value.ref _) (Value.int _ _)) _ _ _); k_dflt (refine' sub_any ?zqk1 ?zqk2 ?zqkh ?zqk3 ?zqk4 ?zqk5 ?_; (case zqk1 => k_asm); (case zqk2 => k_mem); (case zqkh => first | exact .inr ⟨_, rfl⟩ | exact .inl ⟨_, rfl⟩); (case zqk3 => decide); (case zqk4 => decide); (case zqk5 => rfl)))) | (k_unfold; (try dsimp only)) | (k_end; wrow_close) | (walk1 <;> (try dsimp only) <;> (try walk_at "mine split")) | (dsimp only; walk1) | (leave1; walk_say "STEP leave1"; try dsimp only) | fail "no step")
  all_goals first
  | exact hret _ _ _ (by k_asm) (by k_asm)
  | skip

set_option maxRecDepth 100000 in
set_option maxHeartbeats 8000000 in
theorem it3_00 (w : World) (mean mg mb) (h₀ : Heap) (L aL : Addr) (cd : Value) (m m₂ : Str → Option Value) (C pt q1 q2 q3 p1 p2 p3 : Addr) (oC oP : Obj) (kt kp : Nat) (tk tn : Tok) (led : List (Addr × Obj))
   (hC : PyProof.Rows.LCg.NsObj oC m₂) (hk : m₂ "k" = some (.int 0 tk)) (hn : m₂ "name" = some (.str (Str.ofString "a") tn)) (hP : oP.data = .cell (some (.ref pt))) (mP : (L + 1, oP) ∈ led) (mt : (pt, ({ cls := .type "list", data := .seq #[.ref q1, .ref q2, .ref q3] kt } : Obj)) ∈ led) (mq : (q1, ({ cls := .type "list", data := .seq #[.ref p1, .ref p2, .ref p3] kp } : Obj)) ∈ led) (s : Shared) (Q : Value → Shared → Prop) (E : Value → Shared → Prop)
   (B : Below callerA h₀ [] h₀) (X : (Mine.hd.heap_1 w.params).In h₀) (T : Top VW LO mean mg mb h₀) (F : Fr h₀ L s.heap m) (N : News h₀ L s.heap ((C, oC) :: led))
   (hret : ∀ h' tk', Fr h₀ L h' m → News h₀ L h' ((C, oC) :: led) → Q (.ref p1) { s with heap := h', toks := tk' }) :
    wpAny (model PySem.Challenge.rw_pg0251_01.row.prog w) (lawA w L aL cd) (eval (lcIter (lcS w) 0) (cE3 w L aL cd C)) Q E s := by
  w_on; revert X; k_fill; intro X
  k_dflt (show wpAny _ (callerA.deeper (envOfC _ (Scope.mk _ _ _ _ _) _ _ _)) (eval (.Subscript _ _ _) (compEnvC (Scope.mk _ _ _ _ _) _ _ (envOfC _ (Scope.mk _ _ _ _ _) _ _ _))) _ _ _)
  (try dsimp only); (try k_fold)
  repeat' (first | ((with_reducible show wpAny _ _ (call (Value.builtin "str.index") _ _) _ _ _); (k_here; (try dsimp only [List.cons_append, List.nil_append]); k_dflt (first | (refine' index_at 0 ?zqa ?zqb ?zqc ?_; (case zqa => exact rfl); (case zqb => decide +kernel); (case zqc => decide)) | (refine' index_at 1 ?zqa ?zqb ?zqc ?_; (case zqa => exact rfl); (case zqb => decide +kernel); (case zqc => decide)) | (refine' index_at 2 ?zqa ?zqb ?zqc ?_; (case zqa => exact rfl); (case zqb => decide +kernel); (case zqc => decide))); intro u' tk'; (try dsimp only); (try k_fold))) | ((with_reducible show wpAny _ _ (call (Value.builtin "str.index") _ _) _ _ _); (k_here; k_dflt (first | (refine' index_at 0 ?zqa ?zqb ?zqc ?_; (case zqa => exact rfl); (case zqb => decide +kernel); (case zqc => decide)) | (refine' index_at 1 ?zqa ?zqb ?zqc ?_; (case zqa => exact rfl); (case zqb => decide +kernel); (case zqc => decide)) | (refine' index_at 2 ?zqa ?zqb ?zqc ?_; (case zqa => exact rfl); (case zqb => decide +kernel); (case zqc => decide))); intro u' tk'; (try dsimp only); (try k_fold))) | ((with_reducible show wpAny _ _ (eval (Expr.Name _ _) _) _ _ _); (k_here; k_dflt (first | (refine' nameX_L ?zqk1 ?zqk2 ?_; (case zqk1 => k_asm); (case zqk2 => assumption)) | (refine' nameX_C ?zqN ?zqc ?zqm ?zqd ?_ ?zqa ?zqb; (case zqa => rfl); (case zqb => rfl); (case zqN => k_asm); (case zqc => rfl); (case zqm => k_mem); (case zqd => assumption); k_whole)))) | ((with_reducible show wpAny _ _ (exec (Stmt.For (Expr.Name _ _) (Expr.Name _ _) _ _ _) _) _ _ _); (k_here; (rename Fr _ _ _ _ => lF'); (with_unfolding_all refine' For_turns lF' ?_; k_whole))) | ((with_reducible show wpAny _ _ (call (Value.builtin "list.insert") _ _) _ _ _); ((with_reducible show wpAny _ _ (call _ (_ ++ _)) _ _ _); dsimp only [List.cons_append, List.nil_append])) | ((with_reducible show wpAny _ _ (subscriptTail _ _ (Value.ref _) _) _ _ _); (k_here; (with_reducible show wpAny _ _ (subscriptTail _ _ (Value.ref _) (Value.int _ _)) _ _ _); k_dflt (refine' sub_any ?zqk1 ?zqk2 ?zqkh ?zqk3 ?zqk4 ?zqk5 ?_; (case zqk1 => k_asm); (case zqk2 => k_mem); (case zqkh => first | exact .inr ⟨_, rfl⟩ | exact .inl ⟨_, rfl⟩); (case zqk3 => decide); (case zqk4 => decide); (case zqk5 => rfl)))) | (k_unfold; (try dsimp only)) | (k_end; wrow_close) | (walk1 <;> (try dsimp only) <;> (try walk_at "mine split")) | (dsimp only; walk1) | (leave1; walk_say "STEP leave1"; try dsimp only) | fail "no step")
  all_goals first
  | exact hret _ _ (by k_asm) (by first | exact sufN (by k_asm) [] rfl | exact sufN (by k_asm) [_] rfl | exact sufN (by k_asm) [_, _] rfl | exact sufN (by k_asm) [_, _, _] rfl | exact sufN (by k_asm) [_, _, _, _] rfl | exact sufN (by k_asm) [_, _, _, _, _] rfl | exact sufN (by k_asm) [_, _, _, _, _, _] rfl | exact sufN (by k_asm) [_, _, _, _, _, _, _] rfl | exact sufN (by k_asm) [_, _, _, _, _, _, _, _] rfl | exact sufN (by k_asm) [_, _, _, _, _, _, _, _, _] rfl | exact sufN (by k_asm) [_, _, _, _, _, _, _, _, _, _] rfl | exact sufN (by k_asm) [_, _, _, _, _, _, _, _, _, _, _] rfl | exact sufN (by k_asm) [_, _, _, _, _, _, _, _, _, _, _, _] rfl | exact sufN (by k_asm) [_, _, _, _, _, _, _, _, _, _, _, _, _] rfl | exact sufN (by k_asm) [_, _, _, _, _, _, _, _, _, _, _, _, _, _] rfl | exact sufN (by k_asm) [_, _, _, _, _, _, _, _, _, _, _, _, _, _, _] rfl)
  | skip

set_option maxRecDepth 100000 in
set_option maxHeartbeats 8000000 in
theorem it3_10 (w : World) (mean mg mb) (h₀ : Heap) (L aL : Addr) (cd : Value) (m m₂ : Str → Option Value) (C pt q1 q2 q3 p1 p2 p3 : Addr) (oC oP : Obj) (kt kp : Nat) (tk tn : Tok) (led : List (Addr × Obj))
   (hC : PyProof.Rows.LCg.NsObj oC m₂) (hk : m₂ "k" = some (.int 0 tk)) (hn : m₂ "name" = some (.str (Str.ofString "b") tn)) (hP : oP.data = .cell (some (.ref pt))) (mP : (L + 1, oP) ∈ led) (mt : (pt, ({ cls := .type "list", data := .seq #[.ref q1, .ref q2, .ref q3] kt } : Obj)) ∈ led) (mq : (q2, ({ cls := .type "list", data := .seq #[.ref p1, .ref p2, .ref p3] kp } : Obj)) ∈ led) (s : Shared) (Q : Value → Shared → Prop) (E : Value → Shared → Prop)
   (B : Below callerA h₀ [] h₀) (X : (Mine.hd.heap_1 w.params).In h₀) (T : Top VW LO mean mg mb h₀) (F : Fr h₀ L s.heap m) (N : News h₀ L s.heap ((C, oC) :: led))
   (hret : ∀ h' tk', Fr h₀ L h' m → News h₀ L h' ((C, oC) :: led) → Q (.ref p1) { s with heap := h', toks := tk' }) :
    wpAny (model PySem.Challenge.rw_pg0251_01.row.prog w) (lawA w L aL cd) (eval (lcIter (lcS w) 0) (cE3 w L aL cd C)) Q E s := by
  w_on; revert X; k_fill; intro X
  k_dflt (show wpAny _ (callerA.deeper (envOfC _ (Scope.mk _ _ _ _ _) _ _ _)) (eval (.Subscript _ _ _) (compEnvC (Scope.mk _ _ _ _ _) _ _ (envOfC _ (Scope.mk _ _ _ _ _) _ _ _))) _ _ _)
  (try dsimp only); (try k_fold)
  repeat' (first | ((with_reducible show wpAny _ _ (call (Value.builtin "str.index") _ _) _ _ _); (k_here; (try dsimp only [List.cons_append, List.nil_append]); k_dflt (first | (refine' index_at 0 ?zqa ?zqb ?zqc ?_; (case zqa => exact rfl); (case zqb => decide +kernel); (case zqc => decide)) | (refine' index_at 1 ?zqa ?zqb ?zqc ?_; (case zqa => exact rfl); (case zqb => decide +kernel); (case zqc => decide)) | (refine' index_at 2 ?zqa ?zqb ?zqc ?_; (case zqa => exact rfl); (case zqb => decide +kernel); (case zqc => decide))); intro u' tk'; (try dsimp only); (try k_fold))) | ((with_reducible show wpAny _ _ (call (Value.builtin "str.index") _ _) _ _ _); (k_here; k_dflt (first | (refine' index_at 0 ?zqa ?zqb ?zqc ?_; (case zqa => exact rfl); (case zqb => decide +kernel); (case zqc => decide)) | (refine' index_at 1 ?zqa ?zqb ?zqc ?_; (case zqa => exact rfl); (case zqb => decide +kernel); (case zqc => decide)) | (refine' index_at 2 ?zqa ?zqb ?zqc ?_; (case zqa => exact rfl); (case zqb => decide +kernel); (case zqc => decide))); intro u' tk'; (try dsimp only); (try k_fold))) | ((with_reducible show wpAny _ _ (eval (Expr.Name _ _) _) _ _ _); (k_here; k_dflt (first | (refine' nameX_L ?zqk1 ?zqk2 ?_; (case zqk1 => k_asm); (case zqk2 => assumption)) | (refine' nameX_C ?zqN ?zqc ?zqm ?zqd ?_ ?zqa ?zqb; (case zqa => rfl); (case zqb => rfl); (case zqN => k_asm); (case zqc => rfl); (case zqm => k_mem); (case zqd => assumption); k_whole)))) | ((with_reducible show wpAny _ _ (exec (Stmt.For (Expr.Name _ _) (Expr.Name _ _) _ _ _) _) _ _ _); (k_here; (rename Fr _ _ _ _ => lF'); (with_unfolding_all refine' For_turns lF' ?_; k_whole))) | ((with_reducible show wpAny _ _ (call (Value.builtin "list.insert") _ _) _ _ _); ((with_reducible show wpAny _ _ (call _ (_ ++ _)) _ _ _); dsimp only [List.cons_append, List.nil_append])) | ((with_reducible show wpAny _ _ (subscriptTail _ _ (Value.ref _) _) _ _ _); (k_here; (with_reducible show wpAny _ _ (subscriptTail _ _ (Value.ref _) (Value.int _ _)) _ _ _); k_dflt (refine' sub_any ?zqk1 ?zqk2 ?zqkh ?zqk3 ?zqk4 ?zqk5 ?_; (case zqk1 => k_asm); (case zqk2 => k_mem); (case zqkh => first | exact .inr ⟨_, rfl⟩ | exact .inl ⟨_, rfl⟩); (case zqk3 => decide); (case zqk4 => decide); (case zqk5 => rfl)))) | (k_unfold; (try dsimp only)) | (k_end; wrow_close) | (walk1 <;> (try dsimp only) <;> (try walk_at "mine split")) | (dsimp only; walk1) | (leave1; walk_say "STEP leave1"; try dsimp only) | fail "no step")
  all_goals first
  | exact hret _ _ (by k_asm) (by first | exact sufN (by k_asm) [] rfl | exact sufN (by k_asm) [_] rfl | exact sufN (by k_asm) [_, _] rfl | exact sufN (by k_asm) [_, _, _] rfl | exact sufN (by k_asm) [_, _, _, _] rfl | exact sufN (by k_asm) [_, _, _, _, _] rfl | exact sufN (by k_asm) [_, _, _, _, _, _] rfl | exact sufN (by k_asm) [_, _, _, _, _, _, _] rfl | exact sufN (by k_asm) [_, _, _, _, _, _, _, _] rfl | exact sufN (by k_asm) [_, _, _, _, _, _, _, _, _] rfl | exact sufN (by k_asm) [_, _, _, _, _, _, _, _, _, _] rfl | exact sufN (by k_asm) [_, _, _, _, _, _, _, _, _, _, _] rfl | exact sufN (by k_asm) [_, _, _, _, _, _, _, _, _, _, _, _] rfl | exact sufN (by k_asm) [_, _, _, _, _, _, _, _, _, _, _, _, _] rfl | exact sufN (by k_asm) [_, _, _, _, _, _, _, _, _, _, _, _, _, _] rfl | exact sufN (by k_asm) [_, _, _, _, _, _, _, _, _, _, _, _, _, _, _] rfl)
  | skip

set_option maxRecDepth 100000 in
set_option maxHeartbeats 8000000 in
theorem it3_20 (w : World) (mean mg mb) (h₀ : Heap) (L aL : Addr) (cd : Value) (m m₂ : Str → Option Value) (C pt q1 q2 q3 p1 p2 p3 : Addr) (oC oP : Obj) (kt kp : Nat) (tk tn : Tok) (led : List (Addr × Obj))
   (hC : PyProof.Rows.LCg.NsObj oC m₂) (hk : m₂ "k" = some (.int 0 tk)) (hn : m₂ "name" = some (.str (Str.ofString "C") tn)) (hP : oP.data = .cell (some (.ref pt))) (mP : (L + 1, oP) ∈ led) (mt : (pt, ({ cls := .type "list", data := .seq #[.ref q1, .ref q2, .ref q3] kt } : Obj)) ∈ led) (mq : (q3, ({ cls := .type "list", data := .seq #[.ref p1, .ref p2, .ref p3] kp } : Obj)) ∈ led) (s : Shared) (Q : Value → Shared → Prop) (E : Value → Shared → Prop)
   (B : Below callerA h₀ [] h₀) (X : (Mine.hd.heap_1 w.params).In h₀) (T : Top VW LO mean mg mb h₀) (F : Fr h₀ L s.heap m) (N : News h₀ L s.heap ((C, oC) :: led))
   (hret : ∀ h' tk', Fr h₀ L h' m → News h₀ L h' ((C, oC) :: led) → Q (.ref p1) { s with heap := h', toks := tk' }) :
    wpAny (model PySem.Challenge.rw_pg0251_01.row.prog w) (lawA w L aL cd) (eval (lcIter (lcS w) 0) (cE3 w L aL cd C)) Q E s := by
  w_on; revert X; k_fill; intro X
  k_dflt (show wpAny _ (callerA.deeper (envOfC _ (Scope.mk _ _ _ _ _) _ _ _)) (eval (.Subscript _ _ _) (compEnvC (Scope.mk _ _ _ _ _) _ _ (envOfC _ (Scope.mk _ _ _ _ _) _ _ _))) _ _ _)
  (try dsimp only); (try k_fold)
  repeat' (first | ((with_reducible show wpAny _ _ (call (Value.builtin "str.index") _ _) _ _ _); (k_here; (try dsimp only [List.cons_append, List.nil_append]); k_dflt (first | (refine' index_at 0 ?zqa ?zqb ?zqc ?_; (case zqa => exact rfl); (case zqb => decide +kernel); (case zqc => decide)) | (refine' index_at 1 ?zqa ?zqb ?zqc ?_; (case zqa => exact rfl); (case zqb => decide +kernel); (case zqc => decide)) | (refine' index_at 2 ?zqa ?zqb ?zqc ?_; (case zqa => exact rfl); (case zqb => decide +kernel); (case zqc => decide))); intro u' tk'; (try dsimp only); (try k_fold))) | ((with_reducible show wpAny _ _ (call (Value.builtin "str.index") _ _) _ _ _); (k_here; k_dflt (first | (refine' index_at 0 ?zqa ?zqb ?zqc ?_; (case zqa => exact rfl); (case zqb => decide +kernel); (case zqc => decide)) | (refine' index_at 1 ?zqa ?zqb ?zqc ?_; (case zqa => exact rfl); (case zqb => decide +kernel); (case zqc => decide)) | (refine' index_at 2 ?zqa ?zqb ?zqc ?_; (case zqa => exact rfl); (case zqb => decide +kernel); (case zqc => decide))); intro u' tk'; (try dsimp only); (try k_fold))) | ((with_reducible show wpAny _ _ (eval (Expr.Name _ _) _) _ _ _); (k_here; k_dflt (first | (refine' nameX_L ?zqk1 ?zqk2 ?_; (case zqk1 => k_asm); (case zqk2 => assumption)) | (refine' nameX_C ?zqN ?zqc ?zqm ?zqd ?_ ?zqa ?zqb; (case zqa => rfl); (case zqb => rfl); (case zqN => k_asm); (case zqc => rfl); (case zqm => k_mem); (case zqd => assumption); k_whole)))) | ((with_reducible show wpAny _ _ (exec (Stmt.For (Expr.Name _ _) (Expr.Name _ _) _ _ _) _) _ _ _); (k_here; (rename Fr _ _ _ _ => lF'); (with_unfolding_all refine' For_turns lF' ?_; k_whole))) | ((with_reducible show wpAny _ _ (call (Value.builtin "list.insert") _ _) _ _ _); ((with_reducible show wpAny _ _ (call _ (_ ++ _)) _ _ _); dsimp only [List.cons_append, List.nil_append])) | ((with_reducible show wpAny _ _ (subscriptTail _ _ (Value.ref _) _) _ _ _); (k_here; (with_reducible show wpAny _ _ (subscriptTail _ _ (Value.ref _) (Value.int _ _)) _ _ _); k_dflt (refine' sub_any ?zqk1 ?zqk2 ?zqkh ?zqk3 ?zqk4 ?zqk5 ?_; (case zqk1 => k_asm); (case zqk2 => k_mem); (case zqkh => first | exact .inr ⟨_, rfl⟩ | exact .inl ⟨_, rfl⟩); (case zqk3 => decide); (case zqk4 => decide); (case zqk5 => rfl)))) | (k_unfold; (try dsimp only)) | (k_end; wrow_close) | (walk1 <;> (try dsimp only) <;> (try walk_at "mine split")) | (dsimp only; walk1) | (leave1; walk_say "STEP leave1"; try dsimp only) | fail "no step")
  all_goals first
  | exact hret _ _ (by k_asm) (by first | exact sufN (by k_asm) [] rfl | exact sufN (by k_asm) [_] rfl | exact sufN (by k_asm) [_, _] rfl | exact sufN (by k_asm) [_, _, _] rfl | exact sufN (by k_asm) [_, _, _, _] rfl | exact sufN (by k_asm) [_, _, _, _, _] rfl | exact sufN (by k_asm) [_, _, _, _, _, _] rfl | exact sufN (by k_asm) [_, _, _, _, _, _, _] rfl | exact sufN (by k_asm) [_, _, _, _, _, _, _, _] rfl | exact sufN (by k_asm) [_, _, _, _, _, _, _, _, _] rfl | exact sufN (by k_asm) [_, _, _, _, _, _, _, _, _, _] rfl | exact sufN (by k_asm) [_, _, _, _, _, _, _, _, _, _, _] rfl | exact sufN (by k_asm) [_, _, _, _, _, _, _, _, _, _, _, _] rfl | exact sufN (by k_asm) [_, _, _, _, _, _, _, _, _, _, _, _, _] rfl | exact sufN (by k_asm) [_, _, _, _, _, _, _, _, _, _, _, _, _, _] rfl | exact sufN (by k_asm) [_, _, _, _, _, _, _, _, _, _, _, _, _, _, _] rfl)
  | skip

set_option maxRecDepth 100000 in
set_option maxHeartbeats 8000000 in
theorem it3_01 (w : World) (mean mg mb) (h₀ : Heap) (L aL : Addr) (cd : Value) (m m₂ : Str → Option Value) (C pt q1 q2 q3 p1 p2 p3 : Addr) (oC oP : Obj) (kt kp : Nat) (tk tn : Tok) (led : List (Addr × Obj))
   (hC : PyProof.Rows.LCg.NsObj oC m₂) (hk : m₂ "k" = some (.int 1 tk)) (hn : m₂ "name" = some (.str (Str.ofString "a") tn)) (hP : oP.data = .cell (some (.ref pt))) (mP : (L + 1, oP) ∈ led) (mt : (pt, ({ cls := .type "list", data := .seq #[.ref q1, .ref q2, .ref q3] kt } : Obj)) ∈ led) (mq : (q1, ({ cls := .type "list", data := .seq #[.ref p1, .ref p2, .ref p3] kp } : Obj)) ∈ led) (s : Shared) (Q : Value → Shared → Prop) (E : Value → Shared → Prop)
   (B : Below callerA h₀ [] h₀) (X : (Mine.hd.heap_1 w.params).In h₀) (T : Top VW LO mean mg mb h₀) (F : Fr h₀ L s.heap m) (N : News h₀ L s.heap ((C, oC) :: led))
   (hret : ∀ h' tk', Fr h₀ L h' m → News h₀ L h' ((C, oC) :: led) → Q (.ref p2) { s with heap := h', toks := tk' }) :
    wpAny (model PySem.Challenge.rw_pg0251_01.row.prog w) (lawA w L aL cd) (eval (lcIter (lcS w) 0) (cE3 w L aL cd C)) Q E s := by
  w_on; revert X; k_fill; intro X
  k_dflt (show wpAny _ (callerA.deeper (envOfC _ (Scope.mk _ _ _ _ _) _ _ _)) (eval (.Subscript _ _ _) (compEnvC (Scope.mk _ _ _ _ _) _ _ (envOfC _ (Scope.mk _ _ _ _ _) _ _ _))) _ _ _)
  (try dsimp only); (try k_fold)
  repeat' (first | ((with_reducible show wpAny _ _ (call (Value.builtin "str.index") _ _) _ _ _); (k_here; (try dsimp only [List.cons_append, List.nil_append]); k_dflt (first | (refine' index_at 0 ?zqa ?zqb ?zqc ?_; (case zqa => exact rfl); (case zqb => decide +kernel); (case zqc => decide)) | (refine' index_at 1 ?zqa ?zqb ?zqc ?_; (case zqa => exact rfl); (case zqb => decide +kernel); (case zqc => decide)) | (refine' index_at 2 ?zqa ?zqb ?zqc ?_; (case zqa => exact rfl); (case zqb => decide +kernel); (case zqc => decide))); intro u' tk'; (try dsimp only); (try k_fold))) | ((with_reducible show wpAny _ _ (call (Value.builtin "str.index") _ _) _ _ _); (k_here; k_dflt (first | (refine' index_at 0 ?zqa ?zqb ?zqc ?_; (case zqa => exact rfl); (case zqb => decide +kernel); (case zqc => decide)) | (refine' index_at 1 ?zqa ?zqb ?zqc ?_; (case zqa => exact rfl); (case zqb => decide +kernel); (case zqc => decide)) | (refine' index_at 2 ?zqa ?zqb ?zqc ?_; (case zqa => exact rfl); (case zqb => decide +kernel); (case zqc => decide))); intro u' tk'; (try dsimp only); (try k_fold))) | ((with_reducible show wpAny _ _ (eval (Expr.Name _ _) _) _ _ _); (k_here; k_dflt (first | (refine' nameX_L ?zqk1 ?zqk2 ?_; (case zqk1 => k_asm); (case zqk2 => assumption)) | (refine' nameX_C ?zqN ?zqc ?zqm ?zqd ?_ ?zqa ?zqb; (case zqa => rfl); (case zqb => rfl); (case zqN => k_asm); (case zqc => rfl); (case zqm => k_mem); (case zqd => assumption); k_whole)))) | ((with_reducible show wpAny _ _ (exec (Stmt.For (Expr.Name _ _) (Expr.Name _ _) _ _ _) _) _ _ _); (k_here; (rename Fr _ _ _ _ => lF'); (with_unfolding_all refine' For_turns lF' ?_; k_whole))) | ((with_reducible show wpAny _ _ (call (Value.builtin "list.insert") _ _) _ _ _); ((with_reducible show wpAny _ _ (call _ (_ ++ _)) _ _ _); dsimp only [List.cons_append, List.nil_append])) | ((with_reducible show wpAny _ _ (subscriptTail _ _ (Value.ref _) _) _ _ _); (k_here; (with_reducible show wpAny _ _ (subscriptTail _ _ (Value.ref _) (Value.int _ _)) _ _ _); k_dflt (refine' sub_any ?zqk1 ?zqk2 ?zqkh ?zqk3 ?zqk4 ?zqk5 ?_; (case zqk1 => k_asm); (case zqk2 => k_mem); (case zqkh => first | exact .inr ⟨_, rfl⟩ | exact .inl ⟨_, rfl⟩); (case zqk3 => decide); (case zqk4 => decide); (case zqk5 => rfl)))) | (k_unfold; (try dsimp only)) | (k_end; wrow_close) | (walk1 <;> (try dsimp only) <;> (try walk_at "mine split")) | (dsimp only; walk1) | (leave1; walk_say "STEP leave1"; try dsimp only) | fail "no step")
  all_goals first
  | exact hret _ _ (by k_asm) (by first | exact sufN (by k_asm) [] rfl | exact sufN (by k_asm) [_] rfl | exact sufN (by k_asm) [_, _] rfl | exact sufN (by k_asm) [_, _, _] rfl | exact sufN (by k_asm) [_, _, _, _] rfl | exact sufN (by k_asm) [_, _, _, _, _] rfl | exact sufN (by k_asm) [_, _, _, _, _, _] rfl | exact sufN (by k_asm) [_, _, _, _, _, _, _] rfl | exact sufN (by k_asm) [_, _, _, _, _, _, _, _] rfl | exact sufN (by k_asm) [_, _, _, _, _, _, _, _, _] rfl | exact sufN (by k_asm) [_, _, _, _, _, _, _, _, _, _] rfl | exact sufN (by k_asm) [_, _, _, _, _, _, _, _, _, _, _] rfl | exact sufN (by k_asm) [_, _, _, _, _, _, _, _, _, _, _, _] rfl | exact sufN (by k_asm) [_, _, _, _, _, _, _, _, _, _, _, _, _] rfl | exact sufN (by k_asm) [_, _, _, _, _, _, _, _, _, _, _, _, _, _] rfl | exact sufN (by k_asm) [_, _, _, _, _, _, _, _, _, _, _, _, _, _, _] rfl)
  | skip

set_option maxRecDepth 100000 in
set_option maxHeartbeats 8000000 in
theorem it3_11 (w : World) (mean mg mb) (h₀ : Heap) (L aL : Addr) (cd : Value) (m m₂ : Str → Option Value) (C pt q1 q2 q3 p1 p2 p3 : Addr) (oC oP : Obj) (kt kp : Nat) (tk tn : Tok) (led : List (Addr × Obj))
   (hC : PyProof.Rows.LCg.NsObj oC m₂) (hk : m₂ "k" = some (.int 1 tk)) (hn : m₂ "name" = some (.str (Str.ofString "B") tn)) (hP : oP.data = .cell (some (.ref pt))) (mP : (L + 1, oP) ∈ led) (mt : (pt, ({ cls := .type "list", data := .seq #[.ref q1, .ref q2, .ref q3] kt } : Obj)) ∈ led) (mq : (q2, ({ cls := .type "list", data := .seq #[.ref p1, .ref p2, .ref p3] kp } : Obj)) ∈ led) (s : Shared) (Q : Value → Shared → Prop) (E : Value → Shared → Prop)
   (B : Below callerA h₀ [] h₀) (X : (Mine.hd.heap_1 w.params).In h₀) (T : Top VW LO mean mg mb h₀) (F : Fr h₀ L s.heap m) (N : News h₀ L s.heap ((C, oC) :: led))
   (hret : ∀ h' tk', Fr h₀ L h' m → News h₀ L h' ((C, oC) :: led) → Q (.ref p2) { s with heap := h', toks := tk' }) :
    wpAny (model PySem.Challenge.rw_pg0251_01.row.prog w) (lawA w L aL cd) (eval (lcIter (lcS w) 0) (cE3 w L aL cd C)) Q E s := by
  w_on; revert X; k_fill; intro X
  k_dflt (show wpAny _ (callerA.deeper (envOfC _ (Scope.mk _ _ _ _ _) _ _ _)) (eval (.Subscript _ _ _) (compEnvC (Scope.mk _ _ _ _ _) _ _ (envOfC _ (Scope.mk _ _ _ _ _) _ _ _))) _ _ _)
  (try dsimp only); (try k_fold)
  repeat' (first | ((with_reducible show wpAny _ _ (call (Value.builtin "str.index") _ _) _ _ _); (k_here; (try dsimp only [List.cons_append, List.nil_append]); k_dflt (first | (refine' index_at 0 ?zqa ?zqb ?zqc ?_; (case zqa => exact rfl); (case zqb => decide +kernel); (case zqc => decide)) | (refine' index_at 1 ?zqa ?zqb ?zqc ?_; (case zqa => exact rfl); (case zqb => decide +kernel); (case zqc => decide)) | (refine' index_at 2 ?zqa ?zqb ?zqc ?_; (case zqa => exact rfl); (case zqb => decide +kernel); (case zqc => decide))); intro u' tk'; (try dsimp only); (try k_fold))) | ((with_reducible show wpAny _ _ (call (Value.builtin "str.index") _ _) _ _ _); (k_here; k_dflt (first | (refine' index_at 0 ?zqa ?zqb ?zqc ?_; (case zqa => exact rfl); (case zqb => decide +kernel); (case zqc => decide)) | (refine' index_at 1 ?zqa ?zqb ?zqc ?_; (case zqa => exact rfl); (case zqb => decide +kernel); (case zqc => decide)) | (refine' index_at 2 ?zqa ?zqb ?zqc ?_; (case zqa => exact rfl); (case zqb => decide +kernel); (case zqc => decide))); intro u' tk'; (try dsimp only); (try k_fold))) | ((with_reducible show wpAny _ _ (eval (Expr.Name _ _) _) _ _ _); (k_here; k_dflt (first | (refine' nameX_L ?zqk1 ?zqk2 ?_; (case zqk1 => k_asm); (case zqk2 => assumption)) | (refine' nameX_C ?zqN ?zqc ?zqm ?zqd ?_ ?zqa ?zqb; (case zqa => rfl); (case zqb => rfl); (case zqN => k_asm); (case zqc => rfl); (case zqm => k_mem); (case zqd => assumption); k_whole)))) | ((with_reducible show wpAny _ _ (exec (Stmt.For (Expr.Name _ _) (Expr.Name _ _) _ _ _) _) _ _ _); (k_here; (rename Fr _ _ _ _ => lF'); (with_unfolding_all refine' For_turns lF' ?_; k_whole))) | ((with_reducible show wpAny _ _ (call (Value.builtin "list.insert") _ _) _ _ _); ((with_reducible show wpAny _ _ (call _ (_ ++ _)) _ _ _); dsimp only [List.cons_append, List.nil_append])) | ((with_reducible show wpAny _ _ (subscriptTail _ _ (Value.ref _) _) _ _ _); (k_here; (with_reducible show wpAny _ _ (subscriptTail _ _ (Value.ref _) (Value.int _ _)) _ _ _); k_dflt (refine' sub_any ?zqk1 ?zqk2 ?zqkh ?zqk3 ?zqk4 ?zqk5 ?_; (case zqk1 => k_asm); (case zqk2 => k_mem); (case zqkh => first | exact .inr ⟨_, rfl⟩ | exact .inl ⟨_, rfl⟩); (case zqk3 => decide); (case zqk4 => decide); (case zqk5 => rfl)))) | (k_unfold; (try dsimp only)) | (k_end; wrow_close) | (walk1 <;> (try dsimp only) <;> (try walk_at "mine split")) | (dsimp only; walk1) | (leave1; walk_say "STEP leave1"; try dsimp only) | fail "no step")
  all_goals first
  | exact hret _ _ (by k_asm) (by first | exact sufN (by k_asm) [] rfl | exact sufN (by k_asm) [_] rfl | exact sufN (by k_asm) [_, _] rfl | exact sufN (by k_asm) [_, _, _] rfl | exact sufN (by k_asm) [_, _, _, _] rfl | exact sufN (by k_asm) [_, _, _, _, _] rfl | exact sufN (by k_asm) [_, _, _, _, _, _] rfl | exact sufN (by k_asm) [_, _, _, _, _, _, _] rfl | exact sufN (by k_asm) [_, _, _, _, _, _, _, _] rfl | exact sufN (by k_asm) [_, _, _, _, _, _, _, _, _] rfl | exact sufN (by k_asm) [_, _, _, _, _, _, _, _, _, _] rfl | exact sufN (by k_asm) [_, _, _, _, _, _, _, _, _, _, _] rfl | exact sufN (by k_asm) [_, _, _, _, _, _, _, _, _, _, _, _] rfl | exact sufN (by k_asm) [_, _, _, _, _, _, _, _, _, _, _, _, _] rfl | exact sufN (by k_asm) [_, _, _, _, _, _, _, _, _, _, _, _, _, _] rfl | exact sufN (by k_asm) [_, _, _, _, _, _, _, _, _, _, _, _, _, _, _] rfl)
  | skip

set_option maxRecDepth 100000 in
set_option maxHeartbeats 8000000 in
theorem it3_21 (w : World) (mean mg mb) (h₀ : Heap) (L aL : Addr) (cd : Value) (m m₂ : Str → Option Value) (C pt q1 q2 q3 p1 p2 p3 : Addr) (oC oP : Obj) (kt kp : Nat) (tk tn : Tok) (led : List (Addr × Obj))
   (hC : PyProof.Rows.LCg.NsObj oC m₂) (hk : m₂ "k" = some (.int 1 tk)) (hn : m₂ "name" = some (.str (Str.ofString "c") tn)) (hP : oP.data = .cell (some (.ref pt))) (mP : (L + 1, oP) ∈ led) (mt : (pt, ({ cls := .type "list", data := .seq #[.ref q1, .ref q2, .ref q3] kt } : Obj)) ∈ led) (mq : (q3, ({ cls := .type "list", data := .seq #[.ref p1, .ref p2, .ref p3] kp } : Obj)) ∈ led) (s : Shared) (Q : Value → Shared → Prop) (E : Value → Shared → Prop)
   (B : Below callerA h₀ [] h₀) (X : (Mine.hd.heap_1 w.params).In h₀) (T : Top VW LO mean mg mb h₀) (F : Fr h₀ L s.heap m) (N : News h₀ L s.heap ((C, oC) :: led))
   (hret : ∀ h' tk', Fr h₀ L h' m → News h₀ L h' ((C, oC) :: led) → Q (.ref p2) { s with heap := h', toks := tk' }) :
    wpAny (model PySem.Challenge.rw_pg0251_01.row.prog w) (lawA w L aL cd) (eval (lcIter (lcS w) 0) (cE3 w L aL cd C)) Q E s := by
  w_on; revert X; k_fill; intro X
  k_dflt (show wpAny _ (callerA.deeper (envOfC _ (Scope.mk _ _ _ _ _) _ _ _)) (eval (.Subscript _ _ _) (compEnvC (Scope.mk _ _ _ _ _) _ _ (envOfC _ (Scope.mk _ _ _ _ _) _ _ _))) _ _ _)
  (try dsimp only); (try k_fold)
  repeat' (first | ((with_reducible show wpAny _ _ (call (Value.builtin "str.index") _ _) _ _ _); (k_here; (try dsimp only [List.cons_append, List.nil_append]); k_dflt (first | (refine' index_at 0 ?zqa ?zqb ?zqc ?_; (case zqa => exact rfl); (case zqb => decide +kernel); (case zqc => decide)) | (refine' index_at 1 ?zqa ?zqb ?zqc ?_; (case zqa => exact rfl); (case zqb => decide +kernel); (case zqc => decide)) | (refine' index_at 2 ?zqa ?zqb ?zqc ?_; (case zqa => exact rfl); (case zqb => decide +kernel); (case zqc => decide))); intro u' tk'; (try dsimp only); (try k_fold))) | ((with_reducible show wpAny _ _ (call (Value.builtin "str.index") _ _) _ _ _); (k_here; k_dflt (first | (refine' index_at 0 ?zqa ?zqb ?zqc ?_; (case zqa => exact rfl); (case zqb => decide +kernel); (case zqc => decide)) | (refine' index_at 1 ?zqa ?zqb ?zqc ?_; (case zqa => exact rfl); (case zqb => decide +kernel); (case zqc => decide)) | (refine' index_at 2 ?zqa ?zqb ?zqc ?_; (case zqa => exact rfl); (case zqb => decide +kernel); (case zqc => decide))); intro u' tk'; (try dsimp only); (try k_fold))) | ((with_reducible show wpAny _ _ (eval (Expr.Name _ _) _) _ _ _); (k_here; k_dflt (first | (refine' nameX_L ?zqk1 ?zqk2 ?_; (case zqk1 => k_asm); (case zqk2 => assumption)) | (refine' nameX_C ?zqN ?zqc ?zqm ?zqd ?_ ?zqa ?zqb; (case zqa => rfl); (case zqb => rfl); (case zqN => k_asm); (case zqc => rfl); (case zqm => k_mem); (case zqd => assumption); k_whole)))) | ((with_reducible show wpAny _ _ (exec (Stmt.For (Expr.Name _ _) (Expr.Name _ _) _ _ _) _) _ _ _); (k_here; (rename Fr _ _ _ _ => lF'); (with_unfolding_all refine' For_turns lF' ?_; k_whole))) | ((with_reducible show wpAny _ _ (call (Value.builtin "list.insert") _ _) _ _ _); ((with_reducible show wpAny _ _ (call _ (_ ++ _)) _ _ _); dsimp only [List.cons_append, List.nil_append])) | ((with_reducible show wpAny _ _ (subscriptTail _ _ (Value.ref _) _) _ _ _); (k_here; (with_reducible show wpAny _ _ (subscriptTail _ _ (Value.ref _) (Value.int _ _)) _ _ _); k_dflt (refine' sub_any ?zqk1 ?zqk2 ?zqkh ?zqk3 ?zqk4 ?zqk5 ?_; (case zqk1 => k_asm); (case zqk2 => k_mem); (case zqkh => first | exact .inr ⟨_, rfl⟩ | exact .inl ⟨_, rfl⟩); (case zqk3 => decide); (case zqk4 => decide); (case zqk5 => rfl)))) | (k_unfold; (try dsimp only)) | (k_end; wrow_close) | (walk1 <;> (try dsimp only) <;> (try walk_at "mine split")) | (dsimp only; walk1) | (leave1; walk_say "STEP leave1"; try dsimp only) | fail "no step")
  all_goals first
  | exact hret _ _ (by k_asm) (by first | exact sufN (by k_asm) [] rfl | exact sufN (by k_asm) [_] rfl | exact sufN (by k_asm) [_, _] rfl | exact sufN (by k_asm) [_, _, _] rfl | exact sufN (by k_asm) [_, _, _, _] rfl | exact sufN (by k_asm) [_, _, _, _, _] rfl | exact sufN (by k_asm) [_, _, _, _, _, _] rfl | exact sufN (by k_asm) [_, _, _, _, _, _, _] rfl | exact sufN (by k_asm) [_, _, _, _, _, _, _, _] rfl | exact sufN (by k_asm) [_, _, _, _, _, _, _, _, _] rfl | exact sufN (by k_asm) [_, _, _, _, _, _, _, _, _, _] rfl | exact sufN (by k_asm) [_, _, _, _, _, _, _, _, _, _, _] rfl | exact sufN (by k_asm) [_, _, _, _, _, _, _, _, _, _, _, _] rfl | exact sufN (by k_asm) [_, _, _, _, _, _, _, _, _, _, _, _, _] rfl | exact sufN (by k_asm) [_, _, _, _, _, _, _, _, _, _, _, _, _, _] rfl | exact sufN (by k_asm) [_, _, _, _, _, _, _, _, _, _, _, _, _, _, _] rfl)
  | skip

set_option maxRecDepth 100000 in
set_option maxHeartbeats 8000000 in
theorem it3_02 (w : World) (mean mg mb) (h₀ : Heap) (L aL : Addr) (cd : Value) (m m₂ : Str → Option Value) (C pt q1 q2 q3 p1 p2 p3 : Addr) (oC oP : Obj) (kt kp : Nat) (tk tn : Tok) (led : List (Addr × Obj))
   (hC : PyProof.Rows.LCg.NsObj oC m₂) (hk : m₂ "k" = some (.int 2 tk)) (hn : m₂ "name" = some (.str (Str.ofString "A") tn)) (hP : oP.data = .cell (some (.ref pt))) (mP : (L + 1, oP) ∈ led) (mt : (pt, ({ cls := .type "list", data := .seq #[.ref q1, .ref q2, .ref q3] kt } : Obj)) ∈ led) (mq : (q1, ({ cls := .type "list", data := .seq #[.ref p1, .ref p2, .ref p3] kp } : Obj)) ∈ led) (s : Shared) (Q : Value → Shared → Prop) (E : Value → Shared → Prop)
   (B : Below callerA h₀ [] h₀) (X : (Mine.hd.heap_1 w.params).In h₀) (T : Top VW LO mean mg mb h₀) (F : Fr h₀ L s.heap m) (N : News h₀ L s.heap ((C, oC) :: led))
   (hret : ∀ h' tk', Fr h₀ L h' m → News h₀ L h' ((C, oC) :: led) → Q (.ref p3) { s with heap := h', toks := tk' }) :
    wpAny (model PySem.Challenge.rw_pg0251_01.row.prog w) (lawA w L aL cd) (eval (lcIter (lcS w) 0) (cE3 w L aL cd C)) Q E s := by
  w_on; revert X; k_fill; intro X
  k_dflt (show wpAny _ (callerA.deeper (envOfC _ (Scope.mk _ _ _ _ _) _ _ _)) (eval (.Subscript _ _ _) (compEnvC (Scope.mk _ _ _ _ _) _ _ (envOfC _ (Scope.mk _ _ _ _ _) _ _ _))) _ _ _)
  (try dsimp only); (try k_fold)
  repeat' (first | ((with_reducible show wpAny _ _ (call (Value.builtin "str.index") _ _) _ _ _); (k_here; (try dsimp only [List.cons_append, List.nil_append]); k_dflt (first | (refine' index_at 0 ?zqa ?zqb ?zqc ?_; (case zqa => exact rfl); (case zqb => decide +kernel); (case zqc => decide)) | (refine' index_at 1 ?zqa ?zqb ?zqc ?_; (case zqa => exact rfl); (case zqb => decide +kernel); (case zqc => decide)) | (refine' index_at 2 ?zqa ?zqb ?zqc ?_; (case zqa => exact rfl); (case zqb => decide +kernel); (case zqc => decide))); intro u' tk'; (try dsimp only); (try k_fold))) | ((with_reducible show wpAny _ _ (call (Value.builtin "str.index") _ _) _ _ _); (k_here; k_dflt (first | (refine' index_at 0 ?zqa ?zqb ?zqc ?_; (case zqa => exact rfl); (case zqb => decide +kernel); (case zqc => decide)) | (refine' index_at 1 ?zqa ?zqb ?zqc ?_; (case zqa => exact rfl); (case zqb => decide +kernel); (case zqc => decide)) | (refine' index_at 2 ?zqa ?zqb ?zqc ?_; (case zqa => exact rfl); (case zqb => decide +kernel); (case zqc => decide))); intro u' tk'; (try dsimp only); (try k_fold))) | ((with_reducible show wpAny _ _ (eval (Expr.Name _ _) _) _ _ _); (k_here; k_dflt (first | (refine' nameX_L ?zqk1 ?zqk2 ?_; (case zqk1 => k_asm); (case zqk2 => assumption)) | (refine' nameX_C ?zqN ?zqc ?zqm ?zqd ?_ ?zqa ?zqb; (case zqa => rfl); (case zqb => rfl); (case zqN => k_asm); (case zqc => rfl); (case zqm => k_mem); (case zqd => assumption); k_whole)))) | ((with_reducible show wpAny _ _ (exec (Stmt.For (Expr.Name _ _) (Expr.Name _ _) _ _ _) _) _ _ _); (k_here; (rename Fr _ _ _ _ => lF'); (with_unfolding_all refine' For_turns lF' ?_; k_whole))) | ((with_reducible show wpAny _ _ (call (Value.builtin "list.insert") _ _) _ _ _); ((with_reducible show wpAny _ _ (call _ (_ ++ _)) _ _ _); dsimp only [List.cons_append, List.nil_append])) | ((with_reducible show wpAny _ _ (subscriptTail _ _ (Value.ref _) _) _ _ _); (k_here; (with_reducible show wpAny _ _ (subscriptTail _ _ (Value.ref _) (Value.int _ _)) _ _ _); k_dflt (refine' sub_any ?zqk1 ?zqk2 ?zqkh ?zqk3 ?zqk4 ?zqk5 ?_; (case zqk1 => k_asm); (case zqk2 => k_mem); (case zqkh => first | exact .inr ⟨_, rfl⟩ | exact .inl ⟨_, rfl⟩); (case zqk3 => decide); (case zqk4 => decide); (case zqk5 => rfl)))) | (k_unfold; (try dsimp only)) | (k_end; wrow_close) | (walk1 <;> (try dsimp only) <;> (try walk_at "mine split")) | (dsimp only; walk1) | (leave1; walk_say "STEP leave1"; try dsimp only) | fail "no step")
  all_goals first
  | exact hret _ _ (by k_asm) (by first | exact sufN (by k_asm) [] rfl | exact sufN (by k_asm) [_] rfl | exact sufN (by k_asm) [_, _] rfl | exact sufN (by k_asm) [_, _, _] rfl | exact sufN (by k_asm) [_, _, _, _] rfl | exact sufN (by k_asm) [_, _, _, _, _] rfl | exact sufN (by k_asm) [_, _, _, _, _, _] rfl | exact sufN (by k_asm) [_, _, _, _, _, _, _] rfl | exact sufN (by k_asm) [_, _, _, _, _, _, _, _] rfl | exact sufN (by k_asm) [_, _, _, _, _, _, _, _, _] rfl | exact sufN (by k_asm) [_, _, _, _, _, _, _, _, _, _] rfl | exact sufN (by k_asm) [_, _, _, _, _, _, _, _, _, _, _] rfl | exact sufN (by k_asm) [_, _, _, _, _, _, _, _, _, _, _, _] rfl | exact sufN (by k_asm) [_, _, _, _, _, _, _, _, _, _, _, _, _] rfl | exact sufN (by k_asm) [_, _, _, _, _, _, _, _, _, _, _, _, _, _] rfl | exact sufN (by k_asm) [_, _, _, _, _, _, _, _, _, _, _, _, _, _, _] rfl)
  | skip

set_option maxRecDepth 100000 in
set_option maxHeartbeats 8000000 in
theorem it3_12 (w : World) (mean mg mb) (h₀ : Heap) (L aL : Addr) (cd : Value) (m m₂ : Str → Option Value) (C pt q1 q2 q3 p1 p2 p3 : Addr) (oC oP : Obj) (kt kp : Nat) (tk tn : Tok) (led : List (Addr × Obj))
   (hC : PyProof.Rows.LCg.NsObj oC m₂) (hk : m₂ "k" = some (.int 2 tk)) (hn : m₂ "name" = some (.str (Str.ofString "B") tn)) (hP : oP.data = .cell (some (.ref pt))) (mP : (L + 1, oP) ∈ led) (mt : (pt, ({ cls := .type "list", data := .seq #[.ref q1, .ref q2, .ref q3] kt } : Obj)) ∈ led) (mq : (q2, ({ cls := .type "list", data := .seq #[.ref p1, .ref p2, .ref p3] kp } : Obj)) ∈ led) (s : Shared) (Q : Value → Shared → Prop) (E : Value → Shared → Prop)
   (B : Below callerA h₀ [] h₀) (X : (Mine.hd.heap_1 w.params).In h₀) (T : Top VW LO mean mg mb h₀) (F : Fr h₀ L s.heap m) (N : News h₀ L s.heap ((C, oC) :: led))
   (hret : ∀ h' tk', Fr h₀ L h' m → News h₀ L h' ((C, oC) :: led) → Q (.ref p3) { s with heap := h', toks := tk' }) :
    wpAny (model PySem.Challenge.rw_pg0251_01.row.prog w) (lawA w L aL cd) (eval (lcIter (lcS w) 0) (cE3 w L aL cd C)) Q E s := by
  w_on; revert X; k_fill; intro X
  k_dflt (show wpAny _ (callerA.deeper (envOfC _ (Scope.mk _ _ _ _ _) _ _ _)) (eval (.Subscript _ _ _) (compEnvC (Scope.mk _ _ _ _ _) _ _ (envOfC _ (Scope.mk _ _ _ _ _) _ _ _))) _ _ _)
  (try dsimp only); (try k_fold)
  repeat' (first | ((with_reducible show wpAny _ _ (call (Value.builtin "str.index") _ _) _ _ _); (k_here; (try dsimp only [List.cons_append, List.nil_append]); k_dflt (first | (refine' index_at 0 ?zqa ?zqb ?zqc ?_; (case zqa => exact rfl); (case zqb => decide +kernel); (case zqc => decide)) | (refine' index_at 1 ?zqa ?zqb ?zqc ?_; (case zqa => exact rfl); (case zqb => decide +kernel); (case zqc => decide)) | (refine' index_at 2 ?zqa ?zqb ?zqc ?_; (case zqa => exact rfl); (case zqb => decide +kernel); (case zqc => decide))); intro u' tk'; (try dsimp only); (try k_fold))) | ((with_reducible show wpAny _ _ (call (Value.builtin "str.index") _ _) _ _ _); (k_here; k_dflt (first | (refine' index_at 0 ?zqa ?zqb ?zqc ?_; (case zqa => exact rfl); (case zqb => decide +kernel); (case zqc => decide)) | (refine' index_at 1 ?zqa ?zqb ?zqc ?_; (case zqa => exact rfl); (case zqb => decide +kernel); (case zqc => decide)) | (refine' index_at 2 ?zqa ?zqb ?zqc ?_; (case zqa => exact rfl); (case zqb => decide +kernel); (case zqc => decide))); intro u' tk'; (try dsimp only); (try k_fold))) | ((with_reducible show wpAny _ _ (eval (Expr.Name _ _) _) _ _ _); (k_here; k_dflt (first | (refine' nameX_L ?zqk1 ?zqk2 ?_; (case zqk1 => k_asm); (case zqk2 => assumption)) | (refine' nameX_C ?zqN ?zqc ?zqm ?zqd ?_ ?zqa ?zqb; (case zqa => rfl); (case zqb => rfl); (case zqN => k_asm); (case zqc => rfl); (case zqm => k_mem); (case zqd => assumption); k_whole)))) | ((with_reducible show wpAny _ _ (exec (Stmt.For (Expr.Name _ _) (Expr.Name _ _) _ _ _) _) _ _ _); (k_here; (rename Fr _ _ _ _ => lF'); (with_unfolding_all refine' For_turns lF' ?_; k_whole))) | ((with_reducible show wpAny _ _ (call (Value.builtin "list.insert") _ _) _ _ _); ((with_reducible show wpAny _ _ (call _ (_ ++ _)) _ _ _); dsimp only [List.cons_append, List.nil_append])) | ((with_reducible show wpAny _ _ (subscriptTail _ _ (Value.ref _) _) _ _ _); (k_here; (with_reducible show wpAny _ _ (subscriptTail _ _ (Value.ref _) (Value.int _ _)) _ _ _); k_dflt (refine' sub_any ?zqk1 ?zqk2 ?zqkh ?zqk3 ?zqk4 ?zqk5 ?_; (case zqk1 => k_asm); (case zqk2 => k_mem); (case zqkh => first | exact .inr ⟨_, rfl⟩ | exact .inl ⟨_, rfl⟩); (case zqk3 => decide); (case zqk4 => decide); (case zqk5 => rfl)))) | (k_unfold; (try dsimp only)) | (k_end; wrow_close) | (walk1 <;> (try dsimp only) <;> (try walk_at "mine split")) | (dsimp only; walk1) | (leave1; walk_say "STEP leave1"; try dsimp only) | fail "no step")
  all_goals first
  | exact hret _ _ (by k_asm) (by first | exact sufN (by k_asm) [] rfl | exact sufN (by k_asm) [_] rfl | exact sufN (by k_asm) [_, _] rfl | exact sufN (by k_asm) [_, _, _] rfl | exact sufN (by k_asm) [_, _, _, _] rfl | exact sufN (by k_asm) [_, _, _, _, _] rfl | exact sufN (by k_asm) [_, _, _, _, _, _] rfl | exact sufN (by k_asm) [_, _, _, _, _, _, _] rfl | exact sufN (by k_asm) [_, _, _, _, _, _, _, _] rfl | exact sufN (by k_asm) [_, _, _, _, _, _, _, _, _] rfl | exact sufN (by k_asm) [_, _, _, _, _, _, _, _, _, _] rfl | exact sufN (by k_asm) [_, _, _, _, _, _, _, _, _, _, _] rfl | exact sufN (by k_asm) [_, _, _, _, _, _, _, _, _, _, _, _] rfl | exact sufN (by k_asm) [_, _, _, _, _, _, _, _, _, _, _, _, _] rfl | exact sufN (by k_asm) [_, _, _, _, _, _, _, _, _, _, _, _, _, _] rfl | exact sufN (by k_asm) [_, _, _, _, _, _, _, _, _, _, _, _, _, _, _] rfl)
  | skip

set_option maxRecDepth 100000 in
set_option maxHeartbeats 8000000 in
theorem it3_22 (w : World) (mean mg mb) (h₀ : Heap) (L aL : Addr) (cd : Value) (m m₂ : Str → Option Value) (C pt q1 q2 q3 p1 p2 p3 : Addr) (oC oP : Obj) (kt kp : Nat) (tk tn : Tok) (led : List (Addr × Obj))
   (hC : PyProof.Rows.LCg.NsObj oC m₂) (hk : m₂ "k" = some (.int 2 tk)) (hn : m₂ "name" = some (.str (Str.ofString "C") tn)) (hP : oP.data = .cell (some (.ref pt))) (mP : (L + 1, oP) ∈ led) (mt : (pt, ({ cls := .type "list", data := .seq #[.ref q1, .ref q2, .ref q3] kt } : Obj)) ∈ led) (mq : (q3, ({ cls := .type "list", data := .seq #[.ref p1, .ref p2, .ref p3] kp } : Obj)) ∈ led) (s : Shared) (Q : Value → Shared → Prop) (E : Value → Shared → Prop)
   (B : Below callerA h₀ [] h₀) (X : (Mine.hd.heap_1 w.params).In h₀) (T : Top VW LO mean mg mb h₀) (F : Fr h₀ L s.heap m) (N : News h₀ L s.heap ((C, oC) :: led))
   (hret : ∀ h' tk', Fr h₀ L h' m → News h₀ L h' ((C, oC) :: led) → Q (.ref p3) { s with heap := h', toks := tk' }) :
    wpAny (model PySem.Challenge.rw_pg0251_01.row.prog w) (lawA w L aL cd) (eval (lcIter (lcS w) 0) (cE3 w L aL cd C)) Q E s := by
  w_on; revert X; k_fill; intro X
  k_dflt (show wpAny _ (callerA.deeper (envOfC _ (Scope.mk _ _ _ _ _) _ _ _)) (eval (.Subscript _ _ _) (compEnvC (Scope.mk _ _ _ _ _) _ _ (envOfC _ (Scope.mk _ _ _ _ _) _ _ _))) _ _ _)
  (try dsimp only); (try k_fold)
  repeat' (first | ((with_reducible show wpAny _ _ (call (Value.builtin "str.index") _ _) _ _ _); (k_here; (try dsimp only [List.cons_append, List.nil_append]); k_dflt (first | (refine' index_at 0 ?zqa ?zqb ?zqc ?_; (case zqa => exact rfl); (case zqb => decide +kernel); (case zqc => decide)) | (refine' index_at 1 ?zqa ?zqb ?zqc ?_; (case zqa => exact rfl); (case zqb => decide +kernel); (case zqc => decide)) | (refine' index_at 2 ?zqa ?zqb ?zqc ?_; (case zqa => exact rfl); (case zqb => decide +kernel); (case zqc => decide))); intro u' tk'; (try dsimp only); (try k_fold))) | ((with_reducible show wpAny _ _ (call (Value.builtin "str.index") _ _) _ _ _); (k_here; k_dflt (first | (refine' index_at 0 ?zqa ?zqb ?zqc ?_; (case zqa => exact rfl); (case zqb => decide +kernel); (case zqc => decide)) | (refine' index_at 1 ?zqa ?zqb ?zqc ?_; (case zqa => exact rfl); (case zqb => decide +kernel); (case zqc => decide)) | (refine' index_at 2 ?zqa ?zqb ?zqc ?_; (case zqa => exact rfl); (case zqb => decide +kernel); (case zqc => decide))); intro u' tk'; (try dsimp only); (try k_fold))) | ((with_reducible show wpAny _ _ (eval (Expr.Name _ _) _) _ _ _); (k_here; k_dflt (first | (refine' nameX_L ?zqk1 ?zqk2 ?_; (case zqk1 => k_asm); (case zqk2 => assumption)) | (refine' nameX_C ?zqN ?zqc ?zqm ?zqd ?_ ?zqa ?zqb; (case zqa => rfl); (case zqb => rfl); (case zqN => k_asm); (case zqc => rfl); (case zqm => k_mem); (case zqd => assumption); k_whole)))) | ((with_reducible show wpAny _ _ (exec (Stmt.For (Expr.Name _ _) (Expr.Name _ _) _ _ _) _) _ _ _); (k_here; (rename Fr _ _ _ _ => lF'); (with_unfolding_all refine' For_turns lF' ?_; k_whole))) | ((with_reducible show wpAny _ _ (call (Value.builtin "list.insert") _ _) _ _ _); ((with_reducible show wpAny _ _ (call _ (_ ++ _)) _ _ _); dsimp only [List.cons_append, List.nil_append])) | ((with_reducible show wpAny _ _ (subscriptTail _ _ (Value.ref _) _) _ _ _); (k_here; (with_reducible show wpAny _ _ (subscriptTail _ _ (Value.ref _) (Value.int _ _)) _ _ _); k_dflt (refine' sub_any ?zqk1 ?zqk2 ?zqkh ?zqk3 ?zqk4 ?zqk5 ?_; (case zqk1 => k_asm); (case zqk2 => k_mem); (case zqkh => first | exact .inr ⟨_, rfl⟩ | exact .inl ⟨_, rfl⟩); (case zqk3 => decide); (case zqk4 => decide); (case zqk5 => rfl)))) | (k_unfold; (try dsimp only)) | (k_end; wrow_close) | (walk1 <;> (try dsimp only) <;> (try walk_at "mine split")) | (dsimp only; walk1) | (leave1; walk_say "STEP leave1"; try dsimp only) | fail "no step")
  all_goals first
  | exact hret _ _ (by k_asm) (by first | exact sufN (by k_asm) [] rfl | exact sufN (by k_asm) [_] rfl | exact sufN (by k_asm) [_, _] rfl | exact sufN (by k_asm) [_, _, _] rfl | exact sufN (by k_asm) [_, _, _, _] rfl | exact sufN (by k_asm) [_, _, _, _, _] rfl | exact sufN (by k_asm) [_, _, _, _, _, _] rfl | exact sufN (by k_asm) [_, _, _, _, _, _, _] rfl | exact sufN (by k_asm) [_, _, _, _, _, _, _, _] rfl | exact sufN (by k_asm) [_, _, _, _, _, _, _, _, _] rfl | exact sufN (by k_asm) [_, _, _, _, _, _, _, _, _, _] rfl | exact sufN (by k_asm) [_, _, _, _, _, _, _, _, _, _, _] rfl | exact sufN (by k_asm) [_, _, _, _, _, _, _, _, _, _, _, _] rfl | exact sufN (by k_asm) [_, _, _, _, _, _, _, _, _, _, _, _, _] rfl | exact sufN (by k_asm) [_, _, _, _, _, _, _, _, _, _, _, _, _, _] rfl | exact sufN (by k_asm) [_, _, _, _, _, _, _, _, _, _, _, _, _, _, _] rfl)
  | skip
end
section

set_option maxRecDepth 100000 in
set_option maxHeartbeats 8000000 in
theorem pa2 (w : World) (mean mg mb) (h₀ : Heap) (L aL : Addr) (cd : Value) (m : Str → Option Value) (sl p1 p2 : Addr) (ks : Nat) (w2 w3 : Obj) (v2 v3 : Option Value) (led : List (Addr × Obj))
   (d2 : w2.data = .cell v2) (d3 : w3.data = .cell v3) (o2 : ∀ p ∈ led, p.1 ≠ L + 1 + 1) (o3 : ∀ p ∈ led, p.1 ≠ L + 1 + 1 + 1) (e12 : @Ne Nat (L + 1 + 1) (L + 1 + 1 + 1)) (e21 : @Ne Nat (L + 1 + 1 + 1) (L + 1 + 1)) (ms : (sl, ({ cls := .type "list", data := .seq #[.ref p1, .ref p2] ks } : Obj)) ∈ led) (s : Shared) (Q : Unit → Shared → Prop) (E : Value → Shared → Prop)
   (B : Below callerA h₀ [] h₀) (X : (Mine.hd.heap_1 w.params).In h₀) (T : Top VW LO mean mg mb h₀) (F : Fr h₀ L s.heap m) (N : News h₀ L s.heap ((L + 1 + 1, w2) :: (L + 1 + 1 + 1, w3) :: led))
   (hret : ∀ w2' w3' h' tk', Fr h₀ L h' m → w2'.data = .cell (some (.ref p1)) → w3'.data = .cell (some (.ref p2)) → News h₀ L h' ((L + 1 + 1, w2') :: (L + 1 + 1 + 1, w3') :: led) → Q () { s with heap := h', toks := tk' }) :
    wpAny (model PySem.Challenge.rw_pg0251_01.row.prog w) (lawA w L aL cd) (assign (forTgt ((fnBody (lawO w)).getD 2 (.Pass default))) (lawE w L aL cd) (.ref sl)) Q E s := by
  w_on; revert X; k_fill; intro X
  k_dflt (show wpAny _ (callerA.deeper (envOfC _ (Scope.mk _ _ _ _ _) _ _ _)) (assign (.Tuple _ _ _) (envOfC _ (Scope.mk _ _ _ _ _) _ _ _) _) _ _ _)
  (try dsimp only); (try k_fold)
  repeat' (first |  ((with_reducible show wpAny _ _ (call (Value.builtin "list.append") _ _) _ _ _); (k_here; (try dsimp only [List.cons_append, List.nil_append]); k_dflt (refine' append_K ?zqk1 ?zqk2 ?zqk3 ?_ ?zqz; (case zqk1 => k_asm); (case zqk2 => k_asm); (case zqk3 => k_upd); (case zqz => rw [List.size_toArray]; exact Nat.le_trans (by assumption) (Nat.le_of_ble_eq_true rfl))); intro h' F' N'; (try k_sweep))) | ((with_reducible show wpAny _ _ (eval (Expr.Name _ _) _) _ _ _); (k_here; k_dflt (first | (refine' nameX_L ?zqk1 ?zqk2 ?_; (case zqk1 => k_asm); (case zqk2 => assumption)) | (refine' nameX_C ?zqN ?zqc ?zqm ?zqd ?_ ?zqa ?zqb; (case zqa => rfl); (case zqb => rfl); (case zqN => k_asm); (case zqc => rfl); (case zqm => k_mem); (case zqd => assumption); k_whole)))) | ((with_reducible show wpAny _ _ (exec (Stmt.For (Expr.Name _ _) (Expr.Name _ _) _ _ _) _) _ _ _); (k_here; (rename Fr _ _ _ _ => lF'); (with_unfolding_all refine' For_turns lF' ?_; k_whole))) | ((with_reducible show wpAny _ _ (call (Value.builtin "list.insert") _ _) _ _ _); ((with_reducible show wpAny _ _ (call _ (_ ++ _)) _ _ _); dsimp only [List.cons_append, List.nil_append])) | ((with_reducible show wpAny _ _ (subscriptTail _ _ (Value.ref _) _) _ _ _); (k_here; (with_reducible show wpAny _ _ (subscriptTail _ _ (Value.ref _) (Value.int _ _)) _ _ _); k_dflt (refine' sub_any ?zqk1 ?zqk2 ?zqkh ?zqk3 ?zqk4 ?zqk5 ?_; (case zqk1 => k_asm); (case zqk2 => k_mem); (case zqkh => first | exact .inr ⟨_, rfl⟩ | exact .inl ⟨_, rfl⟩); (case zqk3 => decide); (case zqk4 => decide); (case zqk5 => rfl)))) | (k_unfold; (try dsimp only)) | (k_end; wrow_close) | (walk1 <;> (try dsimp only) <;> (try walk_at "mine split")) | (dsimp only; walk1) | (leave1; walk_say "STEP leave1"; try dsimp only) | fail "no step")
  all_goals first
  | exact hret _ _ _ _ (by k_asm) (by assumption) (by assumption) (by k_asm)
  | skip

set_option maxRecDepth 100000 in
set_option maxHeartbeats 8000000 in
theorem pb2 (w : World) (mean mg mb) (h₀ : Heap) (L aL : Addr) (cd : Value) (m : Str → Option Value) (p1 p2 pt bl : Addr) (a b c : Int) (t1 t2 t3 : Tok) (k : Nat) (items : List Value) (w1 w2 w3 w4 : Obj) (led : List (Addr × Obj))
   (d1 : w1.data = .cell (some (.ref pt))) (d2 : w2.data = .cell (some (.ref p1))) (d3 : w3.data = .cell (some (.ref p2))) (d4 : w4.data = .cell (some (.ref bl))) (mw1 : (L + 1, w1) ∈ led) (mw2 : (L + 1 + 1, w2) ∈ led) (mw3 : (L + 1 + 1 + 1, w3) ∈ led) (mw4 : (L + 1 + 1 + 1 + 1, w4) ∈ led) (op : ∀ p ∈ led, p.1 ≠ pt) (hk : items.length ≤ 27) (mbl : (bl, ({ cls := .type "list", data := .seq #[.int a t1, .int b t2, .int c t3] 3 } : Obj)) ∈ led) (s : Shared) (Q : Flow → Shared → Prop) (E : Value → Shared → Prop)
   (B : Below callerA h₀ [] h₀) (X : (Mine.hd.heap_1 w.params).In h₀) (T : Top VW LO mean mg mb h₀) (F : Fr h₀ L s.heap m) (N : News h₀ L s.heap ((pt, ({ cls := .type "list", data := .seq items.toArray k } : Obj)) :: led))
   (hret : ∀ (q T : Addr) (M : Int) (u1 u2 u3 : Tok) (kq : Nat) h' tk', Fr h₀ L h' m → News h₀ L h' ((pt, ({ cls := .type "list", data := .seq (items.toArray.push (.ref q)) (k + 1) } : Obj)) :: led) → News h₀ L h' [(q, ({ cls := .type "list", data := .seq #[.ref p1, .ref p2, .ref T] kq } : Obj)), (T, tup3 (M - a) (M - b) (M - c) u1 u2 u3)] → q ≠ pt → T ≠ pt → MxP a b c M → Q .next { s with heap := h', toks := tk' }) :
    wpAny (model PySem.Challenge.rw_pg0251_01.row.prog w) (lawA w L aL cd) (exec ((forStmts ((fnBody (lawO w)).getD 2 (.Pass default))).getD 1 (.Pass default)) (lawE w L aL cd)) Q E s := by
  w_on; revert X; k_fill; intro X
  k_dflt (show wpAny _ (callerA.deeper (envOfC _ (Scope.mk _ _ _ _ _) _ _ _)) (exec (.Expr _ _) (envOfC _ (Scope.mk _ _ _ _ _) _ _ _)) _ _ _)
  (try dsimp only); (try k_fold)
  repeat' (first | (k_here; (with_reducible show wpAny _ _ (eval (Expr.ListComp _ _ _ _) _) _ _ _); k_dflt (refine' thirdC w mean mg mb ?B ?X ?T ?F ?N ?d4 ?m4 ?p1 ?_; (case B => k_asm); (case X => k_asm); (case T => k_asm); (case F => k_asm); (case N => k_asm); (case d4 => assumption); (case m4 => k_mem); (case p1 => k_mem); intro D' M' u1' u2' u3' h' tk' hM' F' N' l1'); (have n8' := NeAll.of (fun q hq => Ne.symm (l1' q hq))); (try simp only [NeAll, and_true] at n8'); (try walk_at "mine split"); (try k_sweep); (try dsimp only); (try k_fold)) |  ((with_reducible show wpAny _ _ (call (Value.builtin "list.append") _ _) _ _ _); (k_here; (try dsimp only [List.cons_append, List.nil_append]); k_dflt (refine' append_K ?zqk1 ?zqk2 ?zqk3 ?_ ?zqz; (case zqk1 => k_asm); (case zqk2 => k_asm); (case zqk3 => k_upd); (case zqz => rw [List.size_toArray]; exact Nat.le_trans (by assumption) (Nat.le_of_ble_eq_true rfl))); intro h' F' N'; (try k_sweep))) | ((with_reducible show wpAny _ _ (eval (Expr.Name _ _) _) _ _ _); (k_here; k_dflt (first | (refine' nameX_L ?zqk1 ?zqk2 ?_; (case zqk1 => k_asm); (case zqk2 => assumption)) | (refine' nameX_C ?zqN ?zqc ?zqm ?zqd ?_ ?zqa ?zqb; (case zqa => rfl); (case zqb => rfl); (case zqN => k_asm); (case zqc => rfl); (case zqm => k_mem); (case zqd => assumption); k_whole)))) | ((with_reducible show wpAny _ _ (exec (Stmt.For (Expr.Name _ _) (Expr.Name _ _) _ _ _) _) _ _ _); (k_here; (rename Fr _ _ _ _ => lF'); (with_unfolding_all refine' For_turns lF' ?_; k_whole))) | ((with_reducible show wpAny _ _ (call (Value.builtin "list.insert") _ _) _ _ _); ((with_reducible show wpAny _ _ (call _ (_ ++ _)) _ _ _); dsimp only [List.cons_append, List.nil_append])) | ((with_reducible show wpAny _ _ (subscriptTail _ _ (Value.ref _) _) _ _ _); (k_here; (with_reducible show wpAny _ _ (subscriptTail _ _ (Value.ref _) (Value.int _ _)) _ _ _); k_dflt (refine' sub_any ?zqk1 ?zqk2 ?zqkh ?zqk3 ?zqk4 ?zqk5 ?_; (case zqk1 => k_asm); (case zqk2 => k_mem); (case zqkh => first | exact .inr ⟨_, rfl⟩ | exact .inl ⟨_, rfl⟩); (case zqk3 => decide); (case zqk4 => decide); (case zqk5 => rfl)))) | (k_unfold; (try dsimp only)) | (k_end; wrow_close) | (walk1 <;> (try dsimp only) <;> (try walk_at "mine split")) | (dsimp only; walk1) | (leave1; walk_say "STEP leave1"; try dsimp only) | fail "no step")
  all_goals first
  | exact hret _ _ _ _ _ _ _ _ _ (by k_asm) (by first | exact sufN (by k_asm) [] rfl | exact sufN (by k_asm) [_] rfl | exact sufN (by k_asm) [_, _] rfl | exact sufN (by k_asm) [_, _, _] rfl | exact sufN (by k_asm) [_, _, _, _] rfl | exact sufN (by k_asm) [_, _, _, _, _] rfl | exact sufN (by k_asm) [_, _, _, _, _, _] rfl | exact sufN (by k_asm) [_, _, _, _, _, _, _] rfl | exact sufN (by k_asm) [_, _, _, _, _, _, _, _] rfl | exact sufN (by k_asm) [_, _, _, _, _, _, _, _, _] rfl | exact sufN (by k_asm) [_, _, _, _, _, _, _, _, _, _] rfl | exact sufN (by k_asm) [_, _, _, _, _, _, _, _, _, _, _] rfl | exact sufN (by k_asm) [_, _, _, _, _, _, _, _, _, _, _, _] rfl | exact sufN (by k_asm) [_, _, _, _, _, _, _, _, _, _, _, _, _] rfl | exact sufN (by k_asm) [_, _, _, _, _, _, _, _, _, _, _, _, _, _] rfl | exact sufN (by k_asm) [_, _, _, _, _, _, _, _, _, _, _, _, _, _, _] rfl) (consN (by k_asm) (by k_mem) (consN (by k_asm) (by k_mem) (fun _ hq => nomatch hq))) (by k_ne) (by k_ne) (by assumption)
  | skip
end
section
theorem sl6a {a b c d e f : Value} : (slicePick #[a, b, c, d, e, f] none (some 2) none).toList = [a, b] := rfl
theorem sl6b {a b c d e f : Value} : (slicePick #[a, b, c, d, e, f] (some 2) (some 4) none).toList = [c, d] := rfl
theorem sl6c {a b c d e f : Value} : (slicePick #[a, b, c, d, e, f] (some 4) none none).toList = [e, f] := by
  rw [kmk_pick_nat (a := 4) (b := 6) _ (show sliceBounds (some 4) none none 6 = _ by decide)]; rfl
section
variable {prog : Program} {w : World} {A : Around} {E : Value → Shared → Prop} {s : Shared} {h₀ hp : Heap} {L l b : Addr} {m : Str → Option Value} {news : List (Addr × Obj)} {its : Array Value} {zs : List Value} {value slice : Expr} {vl vu : Value} {lo hi : Option Int} {Q : Value → Shared → Prop} {tk c : Nat}
theorem sl_lit (F : Fr h₀ L hp m) (N : News h₀ L hp news) (hl : hp.IsList l its) (pl : IsPart vl lo) (pu : IsPart vu hi) (e : (slicePick its lo hi none).toList = zs)
    (h : ∀ D h', Fr h₀ L h' m → News h₀ L h' ((D, listOf zs.toArray 0) :: news) → (∀ p ∈ news, p.1 < D) → Q (.ref D) { s with heap := h', toks := tk })
    (hs : subscripted slice false (.ref l) (.ref hp.objs.size) = operate [.ref hp.objs.size, .ref l] (getItem (.ref l) (.ref hp.objs.size))) (ht : ∀ r, letTemporaryGo value (.ref l) r = pure ()) (hz : its.size ≤ sizeLine) :
    wpAny (model prog w) A (subscriptTail value slice (.ref l) (.ref hp.objs.size)) Q E { heap := hp.push { cls := .type "slice", data := .fields #[vl, vu, .none] }, gens := s.gens, drawn := s.drawn, toks := tk, os := s.os } :=
  kmk_slice_lit (s := { s with heap := hp, toks := tk }) F N hl pl pu e h hs ht hz
end

set_option maxRecDepth 100000 in
set_option maxHeartbeats 8000000 in
theorem it2 (w : World) (mean mg mb) (h₀ : Heap) (L aL : Addr) (cd : Value) (m : Str → Option Value) (D : Addr) (p1 p2 p3 p4 p5 p6 : Addr) (k : Nat) (led : List (Addr × Obj))
   (hm : m "drawn" = some (.ref D)) (mD : (D, ({ cls := .type "list", data := .seq #[.ref p1, .ref p2, .ref p3, .ref p4, .ref p5, .ref p6] k } : Obj)) ∈ led) (s : Shared) (Q : Value → Shared → Prop) (E : Value → Shared → Prop)
   (B : Below callerA h₀ [] h₀) (X : (Mine.hd.heap_1 w.params).In h₀) (T : Top VW LO mean mg mb h₀) (F : Fr h₀ L s.heap m) (N : News h₀ L s.heap led)
   (hret : ∀ l s1 s2 s3 h' tk', Fr h₀ L h' m → News h₀ L h' ((l, ({ cls := .type "list", data := .seq #[.ref s1, .ref s2, .ref s3] 0 } : Obj)) :: (s3, ({ cls := .type "list", data := .seq #[.ref p5, .ref p6] 0 } : Obj)) :: (s2, ({ cls := .type "list", data := .seq #[.ref p3, .ref p4] 0 } : Obj)) :: (s1, ({ cls := .type "list", data := .seq #[.ref p1, .ref p2] 0 } : Obj)) :: led) → Q (.ref l) { s with heap := h', toks := tk' }) :
    wpAny (model PySem.Challenge.rw_pg0251_01.row.prog w) (lawA w L aL cd) (eval (forIter ((fnBody (lawO w)).getD 2 (.Pass default))) (lawE w L aL cd)) Q E s := by
  w_on; revert X; k_fill; intro X
  k_dflt (show wpAny _ (callerA.deeper (envOfC _ (Scope.mk _ _ _ _ _) _ _ _)) (eval (.List _ _) (envOfC _ (Scope.mk _ _ _ _ _) _ _ _)) _ _ _)
  (try dsimp only); (try k_fold)
  repeat' (first | ((with_reducible show wpAny _ _ (subscriptTail _ _ (Value.ref _) _) _ _ _); (k_here; (with_reducible show wpAny _ _ (subscriptTail _ (PySem.Expr.Slice _ _ none _) (Value.ref _) (Value.ref _)) _ _ _); k_dflt (refine' sl_lit ?zqF ?zqN ?zql ?zqp ?zqq ?zqe ?_ ?zqs ?zqt ?zqz; (case zqF => k_asm); (case zqN => k_asm); (case zql => exact News.isList (by k_asm) (by k_mem)); (case zqp => kmk_part); (case zqq => kmk_part); (case zqe => first | exact sl6a | exact sl6b | exact sl6c); (case zqs => with_unfolding_all rfl); (case zqt => kmk_pure); (case zqz => exact Nat.le_of_ble_eq_true rfl)); intro D' h' F' N' l1; (try k_lt l1); (try k_sweep))) | ((with_reducible show wpAny _ _ (eval (Expr.Name _ _) _) _ _ _); (k_here; k_dflt (first | (refine' nameX_L ?zqk1 ?zqk2 ?_; (case zqk1 => k_asm); (case zqk2 => assumption)) | (refine' nameX_C ?zqN ?zqc ?zqm ?zqd ?_ ?zqa ?zqb; (case zqa => rfl); (case zqb => rfl); (case zqN => k_asm); (case zqc => rfl); (case zqm => k_mem); (case zqd => assumption); k_whole)))) | ((with_reducible show wpAny _ _ (exec (Stmt.For (Expr.Name _ _) (Expr.Name _ _) _ _ _) _) _ _ _); (k_here; (rename Fr _ _ _ _ => lF'); (with_unfolding_all refine' For_turns lF' ?_; k_whole))) | ((with_reducible show wpAny _ _ (call (Value.builtin "list.insert") _ _) _ _ _); ((with_reducible show wpAny _ _ (call _ (_ ++ _)) _ _ _); dsimp only [List.cons_append, List.nil_append])) | ((with_reducible show wpAny _ _ (subscriptTail _ _ (Value.ref _) _) _ _ _); (k_here; (with_reducible show wpAny _ _ (subscriptTail _ _ (Value.ref _) (Value.int _ _)) _ _ _); k_dflt (refine' sub_any ?zqk1 ?zqk2 ?zqkh ?zqk3 ?zqk4 ?zqk5 ?_; (case zqk1 => k_asm); (case zqk2 => k_mem); (case zqkh => first | exact .inr ⟨_, rfl⟩ | exact .inl ⟨_, rfl⟩); (case zqk3 => decide); (case zqk4 => decide); (case zqk5 => rfl)))) | (k_unfold; (try dsimp only)) | (k_end; wrow_close) | (walk1 <;> (try dsimp only) <;> (try walk_at "mine split")) | (dsimp only; walk1) | (leave1; walk_say "STEP leave1"; try dsimp only) | fail "no step")
  all_goals first
  | exact hret _ _ _ _ _ _ (by k_asm) (by k_asm)
  | skip
end
section
open PyProof.Rows.LCg
theorem lc10_cons (w : World) : ∃ p gs, lcGens (lc10 w) = ⟨.Name (Str.ofString "x") p, lcIter (lc10 w) 0, [], 0⟩ :: gs := ⟨_, _, rfl⟩
set_option maxHeartbeats 8000000 in
/-- the last statement's comprehension -/
theorem comp10 (w : World) (mean mg mb) {h₀ : Heap} {L aL : Addr} {cd : Value} {m : Str → Option Value} {base : List (Addr × Obj)} {q q2 q3 pt : Addr} {kt : Nat} {X₁ Y Z : List PA} {oP : Obj} {s : Shared} {Q : Value → Shared → Prop} {E : Value → Shared → Prop}
    (B : Below callerA h₀ [] h₀) (XF : (Mine.hd.heap_1 w.params).In h₀) (T : Top VW LO mean mg mb h₀) (F : Fr h₀ L s.heap m) (N : News h₀ L s.heap base)
    (hP : oP.data = .cell (some (.ref pt))) (mP : (L + 1, oP) ∈ base) (mt : (pt, ({ cls := .type "list", data := .seq #[.ref q, .ref q2, .ref q3] kt } : Obj)) ∈ base)
    (px : PotIn base q X₁) (py : PotIn base q2 Y) (pz : PotIn base q3 Z)
    (hret : ∀ D ys objs h' tk', Fr h₀ L h' m → News h₀ L h' ((D, lst ys) :: (base ++ objs)) → TIn 27 D (X₁.foldl (stepX Y Z) []) ys objs → Q (.ref D) { s with heap := h', toks := tk' }) :
    wpAny (model PySem.Challenge.rw_pg0251_01.row.prog w) (lawA w L aL cd) (eval (lc10 w) (lawE w L aL cd)) Q E s := by
  obtain ⟨p0, gs, eg⟩ := lc10_cons w
  obtain ⟨pp, hg⟩ := lc10_g0 w
  obtain ⟨pp', hg2⟩ := lc10_g1 w
  obtain ⟨k1, x1, x2, x3, rfl, mq, p1, p2, p3⟩ := px
  obtain ⟨k2, y1, y2, y3, rfl, mq2, y1p, y2p, y3p⟩ := py
  rw [lc10_eq, LC10, eg]
  refine kn_top (cl := cloX L) (clos10 w L aL cd) (by rw [lc10_names]; decide) (by rfl) (by rw [lc10_names]; decide) ?_ (by intro _; rfl)
  refine it10_0 w mean mg mb h₀ L aL cd m pt q q2 q3 oP kt base hP mP mt _ _ _ B XF T F N fun h₁ tk₁ F₁ N₁ => ?_
  have hl1 : h₁.IsList q #[.ref x1.1, .ref x2.1, .ref x3.1] := ⟨_, (N₁ _ mq).1, rfl, _, rfl⟩
  refine wpAny_pyIter_list hl1 ?_
  dsimp only
  have upI : ∀ b o, h₁.get? b = some o → (h₁.push { cls := .type "list_iterator", data := .fields #[.ref q, .int 0 0] }).get? b = some o := fun b o e => Heap.get?_push_of_some _ e
  have hit2 : (h₁.push { cls := .type "list_iterator", data := .fields #[.ref q, .int 0 0] }).IsListIter h₁.objs.size q 0 := ⟨_, Heap.get?_push_size _ rfl, rfl, rfl⟩
  have sz2 : (h₁.push { cls := .type "list_iterator", data := .fields #[.ref q, .int 0 0] }).objs.size = h₁.objs.size + 1 := Heap.size_push ..
  have hl2 := hl1.at fun o e => upI _ o e
  generalize h₁.push { cls := .type "list_iterator", data := .fields #[.ref q, .int 0 0] } = h₂ at upI hit2 hl2 sz2 ⊢
  intro h tk C D hDe hCe up hn hD
  have hIlt : h₁.objs.size < h₂.objs.size := sz2 ▸ Nat.lt_succ_self _
  have hID : h₁.objs.size ≠ D := hDe ▸ Nat.ne_of_lt hIlt
  have hIC : h₁.objs.size ≠ C := hCe ▸ Nat.ne_of_lt (Nat.lt_succ_of_lt hIlt)
  have hCD : C ≠ D := by rw [hCe, hDe]; exact Nat.ne_of_gt (Nat.lt_succ_self _)
  have lt1 : ∀ b o, h₁.get? b = some o → b ≠ h₁.objs.size ∧ b ≠ D ∧ b ≠ C := fun b o e => by
    have h1 := Heap.lt_size e
    refine ⟨Nat.ne_of_lt h1, hDe ▸ Nat.ne_of_lt (Nat.lt_trans h1 hIlt), hCe ▸ Nat.ne_of_lt (Nat.lt_succ_of_lt (Nat.lt_trans h1 hIlt))⟩
  have n1 : ∀ a, h₁.objs.size ≤ a → h₁.get? a = none := fun a ha => by
    cases e : h₁.get? a with
    | none => rfl
    | some o => exact absurd (Heap.lt_size e) (Nat.not_lt.mpr ha)
  have up1 : ∀ b o, h₁.get? b = some o → h.get? b = some o := fun b o e => up _ _ (upI _ _ e)
  have hL1 : ∃ o, h₁.get? L = some o := by obtain ⟨o, _, _, e, _⟩ := F₁.ns; exact ⟨o, e⟩
  have hLX : L ∉ [h₁.objs.size, C, D] := by
    obtain ⟨o, e⟩ := hL1
    have := lt1 _ _ e
    intro ha
    rcases List.mem_cons.mp ha with ha | ha
    · exact this.1 ha
    rcases List.mem_cons.mp ha with ha | ha
    · exact this.2.2 ha
    · exact this.2.1 (List.mem_singleton.mp ha)
  have hX : ∀ a ∈ [h₁.objs.size, C, D], h₀.get? a = none := fun a ha => new_none F₁ (n1 a (by
    rcases List.mem_cons.mp ha with rfl | ha
    · exact Nat.le_refl _
    rcases List.mem_cons.mp ha with rfl | ha
    · rw [hCe]; exact Nat.le_succ_of_le (Nat.le_of_lt hIlt)
    · rw [List.mem_singleton.mp ha, hDe]; exact Nat.le_of_lt hIlt))
  have hit : h.IsListIter h₁.objs.size q 0 := hit2.at fun o e => up _ o e
  have hls := hl2.at fun o e => up _ o e
  have hXl : ∀ a ∈ [h₁.objs.size, C, D], ∃ o, h.get? a = some o := fun a ha => by
    rcases List.mem_cons.mp ha with rfl | ha
    · obtain ⟨o, e, _⟩ := hit; exact ⟨o, e⟩
    rcases List.mem_cons.mp ha with rfl | ha
    · obtain ⟨o, _, _, e, _⟩ := hn; exact ⟨o, e⟩
    · rw [List.mem_singleton.mp ha]; exact ⟨_, hD⟩
  have c0 : CInv h₀ L m base [h₁.objs.size, C, D] D 0 [] [] h := by
    refine ⟨[], F₁.keeps up1, fun p hp => ?_, fun p hp ha => ?_, TI.nil, Nat.zero_le _⟩
    · rw [List.append_nil] at hp; exact ⟨up1 _ _ (N₁ p hp).1, (N₁ p hp).2⟩
    · rw [List.append_nil] at hp
      have := lt1 _ _ (N₁ p hp).1
      rcases List.mem_cons.mp ha with ha | ha
      · exact this.1 ha
      rcases List.mem_cons.mp ha with ha | ha
      · exact this.2.2 ha
      · exact this.2.1 (List.mem_singleton.mp ha)
  rw [← eg]
  generalize hX0 : [h₁.objs.size, C, D] = X at hLX hX hXl c0
  have hIX : h₁.objs.size ∈ X := hX0 ▸ .head _
  have hCX : C ∈ X := hX0 ▸ .tail _ (.head _)
  have hDX : D ∈ X := hX0 ▸ .tail _ (.tail _ (.head _))
  have hqX : q ∉ X := (c0.base _ mq).2
  have hqL : q ≠ L := (N _ mq).2.1
  have hIL : h₁.objs.size ≠ L := fun e => hLX (e ▸ hIX)
  have hCL : C ≠ L := fun e => hLX (e ▸ hCX)
  have hDL : D ≠ L := fun e => hLX (e ▸ hDX)
  have loop : ∀ tk, codeAny (model PySem.Challenge.rw_pg0251_01.row.prog w) (lawA w L aL cd) (.compLoop (LC10 w) 0 (.ref h₁.objs.size) (.ref D) (cE10 w L aL cd C))
      (fun r s' => ∃ f m', r = .ok f ∧ s'.heap.Ns C m' ∧ ∀ h', Heap.SameBut C s'.heap h' → Q (.ref D) { s' with heap := h' }) { s with heap := h, toks := tk } := fun tk => by
    refine kn_mid (n := 3) (s := { s with heap := h, toks := tk }) hg hg2 (Walks.list (by rfl) h₁.objs.size q (fun e => hqX (e ▸ hIX)) #[.ref x1.1, .ref x2.1, .ref x3.1]) (by rfl) (by rfl) (Ne.symm hCD) ?hDf ?hCf (Lx := L) ?hLf (Ne.symm hCL) (Ne.symm hDL)
      (fun i m₃ ys h => CInv h₀ L m base X D (9 * i) (([x1, x2, x3].take i).foldl (stepX [y1, y2, y3] Z) []) ys h) ?hfr ?step ⟨hit, hls⟩ hn hD c0 ?done (by intro _; rfl)
    case hDf => intro e; rcases List.mem_cons.mp e with e | e; exact hID e.symm; exact hqX ((List.mem_singleton.mp e) ▸ hDX)
    case hCf => intro e; rcases List.mem_cons.mp e with e | e; exact hIC e.symm; exact hqX ((List.mem_singleton.mp e) ▸ hCX)
    case hLf => intro e; rcases List.mem_cons.mp e with e | e; exact hIL e.symm; exact hqL (List.mem_singleton.mp e).symm
    case hfr =>
      rintro i m₃ ys h h' c hk
      exact c.keep hLX hX fun b o hb e => hk b o (fun q => hb (q ▸ hCX)) (fun q => hb (q ▸ hDX)) (fun q => hb ((List.mem_singleton.mp q) ▸ hIX)) e
    case done =>
      rintro h tk m₃ ys' hn' hD' c hk
      refine ⟨_, m₃, rfl, hn', fun h' hs' => ?_⟩
      have c' := c.keep hLX hX fun b o hb e => hs'.extBut b o (fun q => hb (q ▸ hCX)) e
      obtain ⟨objs, F', N', off', t'⟩ := c'
      refine hret D ys' objs h' tk F' (fun p hp => ?_) t'
      rcases List.mem_cons.mp hp with rfl | hp
      · exact ⟨hs'.extBut _ _ (Ne.symm hCD) hD', hDL, hX _ hDX⟩
      · exact N' p hp
    case step =>
      rintro i v h' tk m₃ ys' E' hi hv hn' hD' hst c hk
      have live : ∀ a ∈ X, ∃ o, h'.get? a = some o := fun a ha => by
        obtain ⟨o, e⟩ := hXl a ha
        by_cases a1 : a = C
        · obtain ⟨o, _, _, e, _⟩ := hn'; exact ⟨o, a1 ▸ e⟩
        by_cases a2 : a = D
        · exact ⟨_, a2 ▸ hD'⟩
        by_cases a3 : a = h₁.objs.size
        · obtain ⟨⟨o, e, _⟩, _⟩ := hst; exact ⟨o, a3 ▸ e⟩
        · exact ⟨o, hk a o a1 a2 (fun q => hLX (q ▸ ha)) (by simpa using a3) e⟩
      have pick : ∃ x : PA, v = .ref x.1 ∧ PIn base x ∧ stepX [y1, y2, y3] Z (([x1, x2, x3].take i).foldl (stepX [y1, y2, y3] Z) []) x = ([x1, x2, x3].take (i + 1)).foldl (stepX [y1, y2, y3] Z) [] := by
        match i, hi with
        | 0, _ => exact ⟨x1, (Option.some.inj hv).symm, p1, rfl⟩
        | 1, _ => exact ⟨x2, (Option.some.inj hv).symm, p2, rfl⟩
        | 2, _ => exact ⟨x3, (Option.some.inj hv).symm, p3, rfl⟩
      obtain ⟨x, hv, px, hst'⟩ := pick
      have f1 : (fun u => if u = Str.ofString "x" then some v else m₃ u) "x" = some (.ref x.1) := (if_pos rfl).trans (congrArg some hv)
      obtain ⟨oC, heC, hoC⟩ := ns_obj hn'
      have F := c.fr
      have bs := fun p hp => (c.base p hp).1
      have NC : News h₀ L h' ((C, oC) :: every h₀ h' L) := fun p hp => by
        rcases List.mem_cons.mp hp with rfl | hp
        · exact ⟨heC, hCL, hX _ hCX⟩
        · exact every_news p hp
      refine it10_1 w mean mg mb h₀ L aL cd m _ C pt q q2 q3 oC oP kt (every h₀ h' L) hoC hP (bs _ mP) (bs _ mt) _ _ _ B XF T F NC fun h₃ tk₃ F₃ N₃ => ?_
      have K3 := every_kept F F₃ N₃ fun p hp => .tail _ hp
      have c3 := c.re F₃ K3
      have hl3 : h₃.IsList q2 #[.ref y1.1, .ref y2.1, .ref y3.1] := by obtain ⟨objs, _, N, _, _⟩ := id c3; exact ⟨_, (N _ (List.mem_append_left _ mq2)).1, rfl, _, rfl⟩
      refine wpAny_pyIter_list hl3 ?_
      dsimp only
      have up : ∀ b o, h₃.get? b = some o → (h₃.push { cls := .type "list_iterator", data := .fields #[.ref q2, .int 0 0] }).get? b = some o := fun b o e => Heap.get?_push_of_some _ e
      have hit5 : (h₃.push { cls := .type "list_iterator", data := .fields #[.ref q2, .int 0 0] }).IsListIter h₃.objs.size q2 0 := ⟨_, Heap.get?_push_size _ rfl, rfl, rfl⟩
      have hl5 := hl3.at fun o e => up _ o e
      generalize h₃.push { cls := .type "list_iterator", data := .fields #[.ref q2, .int 0 0] } = h₅ at up hit5 hl5 ⊢
      have lt3 : ∀ a ∈ X, a ≠ h₃.objs.size := fun a ha => by
        obtain ⟨o, e⟩ := live a ha
        exact Nat.ne_of_lt (Heap.lt_size (K3 _ _ (fun q => hLX (q ▸ ha)) e))
      have lq3 : q2 ≠ h₃.objs.size := by obtain ⟨o, e, _⟩ := hl3; exact Nat.ne_of_lt (Heap.lt_size e)
      have loop : ∀ tk, codeAny (model PySem.Challenge.rw_pg0251_01.row.prog w) (lawA w L aL cd) (.compLoop (LC10 w) 1 (.ref h₃.objs.size) (.ref D) (cE10 w L aL cd C)) (fun r s₆ => ∃ f h₆ tk₆ m₆ ys₆, r = .ok f ∧ s₆ = { s with heap := h₆, toks := tk₆ } ∧ (∀ b o, b ≠ C → b ≠ D → b ≠ L → h'.get? b = some o → h₆.get? b = some o) ∧ h₆.Ns C m₆ ∧ h₆.get? D = some (lst ys₆) ∧
          (CInv h₀ L m base X D (9 * (i + 1)) (([x1, x2, x3].take (i + 1)).foldl (stepX [y1, y2, y3] Z) []) ys₆ h₆)) { s with heap := h₅, toks := tk } := fun tk => by
        refine comp10_y w mean mg mb (X := h₃.objs.size :: X) (s := { s with heap := h₅, toks := tk }) B XF T hP mP mt px pz mq2 y1p y2p y3p (.head _) (.tail _ hCX) (.tail _ hDX) ?_ ?_ ?_ (Ne.symm (lt3 _ hCX)) (Ne.symm (lt3 _ hDX)) hCD (show 9 * i ≤ 18 by omega) hit5 (hn'.at' fun o e => up _ o (K3 _ _ hCL e)) f1 (up _ _ (K3 _ _ hDL hD')) ((c3.add (get_size h₃)).up up) fun h₆ tk₆ m₆ ys₆ n6 d6 c6 k6 => ?_
        · intro q
          rcases List.mem_cons.mp q with q | q
          · exact absurd F₃.ns.lt (q ▸ Nat.lt_irrefl _)
          · exact hLX q
        · intro a ha
          rcases List.mem_cons.mp ha with rfl | ha
          · exact new_none F₃ (get_size h₃)
          · exact hX a ha
        · intro a ha
          rcases List.mem_cons.mp ha with rfl | ha
          · obtain ⟨o, e, _⟩ := hit5; exact ⟨o, e⟩
          · obtain ⟨o, e⟩ := live a ha
            exact ⟨o, up _ _ (K3 _ _ (fun q => hLX (q ▸ ha)) e)⟩
        · refine ⟨_, h₆, tk₆, m₆, ys₆, rfl, rfl, fun b o h1 h2 h3 e => ?_, n6, d6, ?_⟩
          · have e3 := K3 b o h3 e
            exact k6 b o h1 h2 h3 (Nat.ne_of_lt (Heap.lt_size e3)) (up _ _ e3)
          · rw [← hst']; exact c6.drop fun a ha => .tail _ ha
      exact kn_start hg2 (loop _) ((Walks.list (by rfl) h₃.objs.size q2 lq3 #[.ref y1.1, .ref y2.1, .ref y3.1]).self 0 _ _ _ ⟨hit5, hl5⟩ (loop _))
  exact kn_start hg (loop _) ((Walks.list (by rfl) h₁.objs.size q (fun e => hqX (e ▸ hIX)) #[.ref x1.1, .ref x2.1, .ref x3.1]).self 0 _ _ _ ⟨hit, hls⟩ (loop _))
end
section
noncomputable def T3 {α : Type} (X Y Z : List α) : List (α × α × α) := X.flatMap fun x => Y.flatMap fun y => Z.map fun z => (x, y, z)
noncomputable def cB3 (t : PA × PA × PA) : Bool := cB t.1 t.2.1 t.2.2
noncomputable def ad3 (t : PA × PA × PA) : Addr × Addr × Addr := (t.1.1, t.2.1.1, t.2.2.1)
theorem stepY_eq (x y : PA) : ∀ (Z : List PA) (ts : List (Addr × Addr × Addr)), stepY Z x ts y = ts ++ ((Z.map fun z => (x, y, z)).filter cB3).map ad3
  | [], ts => by simp [stepY]
  | z :: Z, ts => by
    show stepY Z x (stepZ x y ts z) y = _
    rw [stepY_eq x y Z]
    unfold stepZ addIf
    cases h : cB x y z with
    | true =>
      have h' : cB3 (x, y, z) = true := h
      simp [h', ad3]
    | false =>
      have h' : cB3 (x, y, z) = false := h
      simp [h']
theorem stepX_eq (x : PA) (Z : List PA) : ∀ (Y : List PA) (ts : List (Addr × Addr × Addr)), stepX Y Z ts x = ts ++ ((Y.flatMap fun y => Z.map fun z => (x, y, z)).filter cB3).map ad3
  | [], ts => by simp [stepX]
  | y :: Y, ts => by
    show stepX Y Z (stepY Z x ts y) x = _
    rw [stepX_eq x Z Y, stepY_eq]
    simp
theorem told_eq (Y Z : List PA) : ∀ (X : List PA) (ts : List (Addr × Addr × Addr)), X.foldl (stepX Y Z) ts = ts ++ ((T3 X Y Z).filter cB3).map ad3
  | [], ts => by simp [T3]
  | x :: X, ts => by
    show X.foldl (stepX Y Z) (stepX Y Z ts x) = _
    rw [told_eq Y Z X, stepX_eq]
    simp [T3]
theorem told_eq0 (X Y Z : List PA) : X.foldl (stepX Y Z) [] = ((T3 X Y Z).filter cB3).map ad3 := by rw [told_eq, List.nil_append]
theorem T3_mem {α : Type} {X Y Z : List α} {t : α × α × α} : t ∈ T3 X Y Z ↔ t.1 ∈ X ∧ t.2.1 ∈ Y ∧ t.2.2 ∈ Z := by
  obtain ⟨a, b, c⟩ := t
  simp only [T3, List.mem_flatMap, List.mem_map, Prod.mk.injEq]
  constructor
  · rintro ⟨x, hx, y, hy, z, hz, rfl, rfl, rfl⟩; exact ⟨hx, hy, hz⟩
  · rintro ⟨hx, hy, hz⟩; exact ⟨a, hx, b, hy, c, hz, rfl, rfl, rfl⟩
theorem T2_map {α β : Type} (f : α → β) (x : α) (Z : List α) : ∀ Y : List α, (Y.flatMap fun y => Z.map fun z => (x, y, z)).map (fun t => (f t.1, f t.2.1, f t.2.2)) = (Y.map f).flatMap fun y => (Z.map f).map fun z => (f x, y, z)
  | [] => rfl
  | y :: Y => by
    rw [List.flatMap_cons, List.map_append, T2_map f x Z Y, List.map_cons, List.flatMap_cons, List.map_map, List.map_map]
    rfl
theorem T3_map {α β : Type} (f : α → β) (Y Z : List α) : ∀ X : List α, (T3 X Y Z).map (fun t => (f t.1, f t.2.1, f t.2.2)) = T3 (X.map f) (Y.map f) (Z.map f)
  | [] => rfl
  | x :: X => by
    have ih := T3_map f Y Z X
    unfold T3 at ih ⊢
    rw [List.flatMap_cons, List.map_append, ih, List.map_cons, List.flatMap_cons, T2_map]
noncomputable def dP (p : PA) : Dat := .tuple [.int p.2.1, .int p.2.2.1, .int p.2.2.2]
noncomputable def d3 (t : PA × PA × PA) : Dat := .list [dP t.1, dP t.2.1, dP t.2.2]
theorem d3_ok (t : PA × PA × PA) : kqdOk 8 (d3 t) = true := by simp [d3, dP, kqdOk]
theorem PIn.dat {base : List (Addr × Obj)} {p : PA} (h : PIn base p) : DatIn base (.ref p.1) (dP p) := by
  obtain ⟨_, t, u, v, m⟩ := h
  exact .tuple (vs := [.int p.2.1 t, .int p.2.2.1 u, .int p.2.2.2 v]) m (.cons (.int _ _) (.cons (.int _ _) (.cons (.int _ _) .nil)))
theorem tobj_dat {base objs : List (Addr × Obj)} : ∀ (l : List (PA × PA × PA)) (Ds : List Addr), Ds.length = l.length → (∀ t ∈ l, PIn base t.1 ∧ PIn base t.2.1 ∧ PIn base t.2.2) → (∀ p ∈ tobj Ds (l.map ad3), p ∈ objs) → DatAll (base ++ objs) (Ds.map Value.ref) (l.map d3)
  | [], [], _, _, _ => .nil
  | [], _ :: _, h, _, _ => by simp at h
  | _ :: _, [], h, _, _ => by simp at h
  | t :: l, D :: Ds, h, hp, hm => by
    have up : ∀ p ∈ base, p ∈ base ++ objs := fun p hp => List.mem_append_left _ hp
    obtain ⟨a, b, c⟩ := hp t (.head _)
    refine .cons ?_ (tobj_dat l Ds (by simpa using h) (fun t ht => hp t (.tail _ ht)) fun p hp => hm p (.tail _ hp))
    exact .list (vs := [.ref t.1.1, .ref t.2.1.1, .ref t.2.2.1]) (List.mem_append_right _ (hm _ (.head _))) (.cons (a.dat.mono up) (.cons (b.dat.mono up) (.cons (c.dat.mono up) .nil)))
theorem told_dat {base objs : List (Addr × Obj)} {n : Nat} {t : Addr} {l : List (PA × PA × PA)} {items : List Value} (h : TIn n t (l.map ad3) items objs) (hp : ∀ t ∈ l, PIn base t.1 ∧ PIn base t.2.1 ∧ PIn base t.2.2) : DatAll (base ++ objs) items (l.map d3) := by
  obtain ⟨⟨Ds, rfl, rfl, hl, _⟩, _⟩ := h
  exact tobj_dat l Ds (by simpa using hl) hp fun p hp => hp
/-- the told triples by their whole numbers alone -/
noncomputable def core (X Y Z : List (Int × Int × Int)) : List Dat := ((T3 X Y Z).filter fun t => canB t.1.1 t.1.2.1 t.1.2.2 t.2.1.1 t.2.1.2.1 t.2.1.2.2 t.2.2.1 t.2.2.2.1 t.2.2.2.2).map fun t => .list [.tuple [.int t.1.1, .int t.1.2.1, .int t.1.2.2], .tuple [.int t.2.1.1, .int t.2.1.2.1, .int t.2.1.2.2], .tuple [.int t.2.2.1, .int t.2.2.2.1, .int t.2.2.2.2]]
theorem told_core (X Y Z : List PA) : ((T3 X Y Z).filter cB3).map d3 = core (X.map (·.2)) (Y.map (·.2)) (Z.map (·.2)) := by
  unfold core
  rw [← T3_map, List.filter_map, List.map_map]
  rfl
/-- a pot's paints, three in number, come to a grey -/
noncomputable def PotG (P : List PA) : Prop := ∃ p1 p2 p3 : PA, P = [p1, p2, p3] ∧ In8 p1.2.1 p1.2.2.1 p1.2.2.2 ∧ In8 p2.2.1 p2.2.2.1 p2.2.2.2 ∧ In8 p3.2.1 p3.2.2.1 p3.2.2.2 ∧
  p1.2.1 + p2.2.1 + p3.2.1 = p1.2.2.1 + p2.2.2.1 + p3.2.2.1 ∧ p1.2.2.1 + p2.2.2.1 + p3.2.2.1 = p1.2.2.2 + p2.2.2.2 + p3.2.2.2
theorem told_some {X Y Z : List PA} (hX : PotG X) (hY : PotG Y) (hZ : PotG Z) : (T3 X Y Z).filter cB3 ≠ [] := by
  obtain ⟨x1, x2, x3, rfl, a1, a2, a3, a4, a5⟩ := hX
  obtain ⟨y1, y2, y3, rfl, b1, b2, b3, b4, b5⟩ := hY
  obtain ⟨z1, z2, z3, rfl, c1, c2, c3, c4, c5⟩ := hZ
  let f (x1 x2 x3 : PA) : Fin 3 → Pt := fun i => match i with | 0 => ⟨x1.2.1, x1.2.2.1, x1.2.2.2⟩ | 1 => ⟨x2.2.1, x2.2.2.1, x2.2.2.2⟩ | 2 => ⟨x3.2.1, x3.2.2.1, x3.2.2.2⟩
  have f8 : ∀ x1 x2 x3 : PA, In8 x1.2.1 x1.2.2.1 x1.2.2.2 → In8 x2.2.1 x2.2.2.1 x2.2.2.2 → In8 x3.2.1 x3.2.2.1 x3.2.2.2 → ∀ i, (f x1 x2 x3 i).in8 := fun x1 x2 x3 h1 h2 h3 i => match i with | 0 => h1 | 1 => h2 | 2 => h3
  have g8 : ∀ x1 x2 x3 : PA, ∀ i, ∃ p ∈ [x1, x2, x3], f x1 x2 x3 i = ⟨p.2.1, p.2.2.1, p.2.2.2⟩ := fun x1 x2 x3 i => match i with | 0 => ⟨x1, by simp, rfl⟩ | 1 => ⟨x2, by simp, rfl⟩ | 2 => ⟨x3, by simp, rfl⟩
  obtain ⟨i, j, k, h⟩ := barany (f x1 x2 x3) (f y1 y2 y3) (f z1 z2 z3) (f8 _ _ _ a1 a2 a3) (f8 _ _ _ b1 b2 b3) (f8 _ _ _ c1 c2 c3) ⟨a4, a5⟩ ⟨b4, b5⟩ ⟨c4, c5⟩
  have h' := (canPt_iff (f8 _ _ _ a1 a2 a3 i) (f8 _ _ _ b1 b2 b3 j) (f8 _ _ _ c1 c2 c3 k)).mpr h
  obtain ⟨x, mx, ex⟩ := g8 x1 x2 x3 i
  obtain ⟨y, my, ey⟩ := g8 y1 y2 y3 j
  obtain ⟨z, mz, ez⟩ := g8 z1 z2 z3 k
  rw [ex, ey, ez] at h'
  intro e
  have : (x, y, z) ∈ (T3 [x1, x2, x3] [y1, y2, y3] [z1, z2, z3]).filter cB3 := List.mem_filter.mpr ⟨T3_mem.mpr ⟨mx, my, mz⟩, h'⟩
  rw [e] at this
  cases this
theorem PotIn.all {base : List (Addr × Obj)} {q : Addr} {P : List PA} (h : PotIn base q P) : ∀ p ∈ P, PIn base p := by
  obtain ⟨k, p1, p2, p3, rfl, _, a, b, c⟩ := h
  intro p hp
  simp only [List.mem_cons, List.not_mem_nil, or_false] at hp
  rcases hp with rfl | rfl | rfl
  · exact a
  · exact b
  · exact c
theorem told_at {objs : List (Addr × Obj)} {n : Nat} {t : Addr} {l : List (PA × PA × PA)} {items : List Value} {i : Nat} {v : Value} (h : TIn n t (l.map ad3) items objs) (e : items[i]? = some v) : ∃ D q, v = .ref D ∧ q ∈ l ∧ (D, xyzO (ad3 q)) ∈ objs := by
  obtain ⟨⟨Ds, rfl, rfl, hl, _⟩, _⟩ := h
  rw [List.getElem?_map] at e
  cases eD : Ds[i]? with
  | none => rw [eD] at e; cases e
  | some D =>
    rw [eD] at e
    cases e
    have go : ∀ (Ds : List Addr) (l : List (PA × PA × PA)) (i : Nat), Ds.length = l.length → Ds[i]? = some D → ∃ q ∈ l, (D, xyzO (ad3 q)) ∈ tobj Ds (l.map ad3) := by
      intro Ds
      induction Ds with
      | nil => intro l i _ h; simp at h
      | cons E Ds ih =>
        intro l i hl h
        cases l with
        | nil => simp at hl
        | cons q l =>
          cases i with
          | zero => have : E = D := by simpa using h
                    subst this; exact ⟨q, .head _, .head _⟩
          | succ i =>
            obtain ⟨q', h1, h2⟩ := ih l i (by simpa using hl) (by simpa using h)
            exact ⟨q', .tail _ h1, .tail _ h2⟩
    obtain ⟨q, h1, h2⟩ := go Ds l i (by simpa using hl) eD
    exact ⟨D, q, rfl, h1, h2⟩
end
section

set_option maxRecDepth 100000 in
set_option maxHeartbeats 8000000 in
theorem nm_read (w : World) (mean mg mb) (h₀ : Heap) (L aL : Addr) (cd : Value) (m : Str → Option Value) (rd : Addr) (led : List (Addr × Obj))
   (hm : m "read" = some (.ref rd)) (s : Shared) (Q : Value → Shared → Prop) (E : Value → Shared → Prop)
   (B : Below callerA h₀ [] h₀) (X : (Mine.hd.heap_1 w.params).In h₀) (T : Top VW LO mean mg mb h₀) (F : Fr h₀ L s.heap m) (N : News h₀ L s.heap led)
   (hret : ∀ h' tk', Fr h₀ L h' m → News h₀ L h' led → Q (.ref rd) { s with heap := h', toks := tk' }) :
    wpAny (model PySem.Challenge.rw_pg0251_01.row.prog w) (lawA w L aL cd) (eval (forIter ((fnBody (lawO w)).getD 5 (.Pass default))) (lawE w L aL cd)) Q E s := by
  w_on; revert X; k_fill; intro X
  k_dflt (show wpAny _ (callerA.deeper (envOfC _ (Scope.mk _ _ _ _ _) _ _ _)) (eval (.Name _ _) (envOfC _ (Scope.mk _ _ _ _ _) _ _ _)) _ _ _)
  (try dsimp only); (try k_fold)
  repeat' (first | ((with_reducible show wpAny _ _ (exec (Stmt.For (Expr.Name _ _) (Expr.Name _ _) _ _ _) _) _ _ _); (k_here; (rename Fr _ _ _ _ => lF'); (with_unfolding_all refine' For_turns lF' ?_; k_whole))) | ((with_reducible show wpAny _ _ (call (Value.builtin "list.insert") _ _) _ _ _); ((with_reducible show wpAny _ _ (call _ (_ ++ _)) _ _ _); dsimp only [List.cons_append, List.nil_append])) | ((with_reducible show wpAny _ _ (subscriptTail _ _ (Value.ref _) _) _ _ _); (k_here; (with_reducible show wpAny _ _ (subscriptTail _ _ (Value.ref _) (Value.int _ _)) _ _ _); k_dflt (refine' sub_any ?zqk1 ?zqk2 ?zqkh ?zqk3 ?zqk4 ?zqk5 ?_; (case zqk1 => k_asm); (case zqk2 => k_mem); (case zqkh => first | exact .inr ⟨_, rfl⟩ | exact .inl ⟨_, rfl⟩); (case zqk3 => decide); (case zqk4 => decide); (case zqk5 => rfl)))) | ((with_reducible show wpAny _ _ (eval (Expr.Name _ _) _) _ _ _); (k_here; k_dflt (refine' nameX_L ?zqk1 ?zqk2 ?_; (case zqk1 => k_asm); (case zqk2 => assumption)))) | (k_unfold; (try dsimp only)) | (k_end; wrow_close) | (walk1 <;> (try dsimp only) <;> (try walk_at "mine split")) | (dsimp only; walk1) | (leave1; walk_say "STEP leave1"; try dsimp only) | fail "no step")
  all_goals exact hret _ _ (by k_asm) (by k_asm)

set_option maxRecDepth 100000 in
set_option maxHeartbeats 8000000 in
theorem nm_told (w : World) (mean mg mb) (h₀ : Heap) (L aL : Addr) (cd : Value) (m : Str → Option Value) (t : Addr) (led : List (Addr × Obj))
   (hm : m "told" = some (.ref t)) (s : Shared) (Q : Value → Shared → Prop) (E : Value → Shared → Prop)
   (B : Below callerA h₀ [] h₀) (X : (Mine.hd.heap_1 w.params).In h₀) (T : Top VW LO mean mg mb h₀) (F : Fr h₀ L s.heap m) (N : News h₀ L s.heap led)
   (hret : ∀ h' tk', Fr h₀ L h' m → News h₀ L h' led → Q (.ref t) { s with heap := h', toks := tk' }) :
    wpAny (model PySem.Challenge.rw_pg0251_01.row.prog w) (lawA w L aL cd) (eval (forIter ((fnBody (lawO w)).getD 9 (.Pass default))) (lawE w L aL cd)) Q E s := by
  w_on; revert X; k_fill; intro X
  k_dflt (show wpAny _ (callerA.deeper (envOfC _ (Scope.mk _ _ _ _ _) _ _ _)) (eval (.Name _ _) (envOfC _ (Scope.mk _ _ _ _ _) _ _ _)) _ _ _)
  (try dsimp only); (try k_fold)
  repeat' (first | ((with_reducible show wpAny _ _ (exec (Stmt.For (Expr.Name _ _) (Expr.Name _ _) _ _ _) _) _ _ _); (k_here; (rename Fr _ _ _ _ => lF'); (with_unfolding_all refine' For_turns lF' ?_; k_whole))) | ((with_reducible show wpAny _ _ (call (Value.builtin "list.insert") _ _) _ _ _); ((with_reducible show wpAny _ _ (call _ (_ ++ _)) _ _ _); dsimp only [List.cons_append, List.nil_append])) | ((with_reducible show wpAny _ _ (subscriptTail _ _ (Value.ref _) _) _ _ _); (k_here; (with_reducible show wpAny _ _ (subscriptTail _ _ (Value.ref _) (Value.int _ _)) _ _ _); k_dflt (refine' sub_any ?zqk1 ?zqk2 ?zqkh ?zqk3 ?zqk4 ?zqk5 ?_; (case zqk1 => k_asm); (case zqk2 => k_mem); (case zqkh => first | exact .inr ⟨_, rfl⟩ | exact .inl ⟨_, rfl⟩); (case zqk3 => decide); (case zqk4 => decide); (case zqk5 => rfl)))) | ((with_reducible show wpAny _ _ (eval (Expr.Name _ _) _) _ _ _); (k_here; k_dflt (refine' nameX_L ?zqk1 ?zqk2 ?_; (case zqk1 => k_asm); (case zqk2 => assumption)))) | (k_unfold; (try dsimp only)) | (k_end; wrow_close) | (walk1 <;> (try dsimp only) <;> (try walk_at "mine split")) | (dsimp only; walk1) | (leave1; walk_say "STEP leave1"; try dsimp only) | fail "no step")
  all_goals exact hret _ _ (by k_asm) (by k_asm)

open Classical in
theorem eq_told {prog : Program} {w : World} {A : Around} {E : Value → Shared → Prop} {s : Shared} {h₀ : Heap} {L a b : Addr} {news n₁ n₂ : List (Addr × Obj)} {xs : List Value} {ys : List Value} {ka kb : Nat} {ds es : List Dat} {Q : Value → Shared → Prop} (r : Bool)
    (N : News h₀ L s.heap news) (ma : (a, ({ cls := .type "list", data := .seq xs.toArray ka } : Obj)) ∈ news) (mb : (b, ({ cls := .type "list", data := .seq ys.toArray kb } : Obj)) ∈ news) (Da : DatAll n₁ xs ds) (Db : DatAll n₂ ys es) (sa : ∀ p ∈ n₁, p ∈ news) (sb : ∀ p ∈ n₂, p ∈ news)
    (ha : ∀ d ∈ ds, kqdOk 8 d = true) (hb : ∀ d ∈ es, kqdOk 8 d = true) (hr : r = true ↔ ds = es) (hu : A.units + 64 < cLine) (h : Q (.bool r) s) : wpAny (model prog w) A (compareOp .Eq (.ref a) (.ref b)) Q E s :=
  kqd_eq N ma rfl rfl Da sa mb rfl rfl Db sb ha hb hu (by
    have e : r = decide (ds = es) := by rw [Bool.eq_iff_iff, hr, decide_eq_true_iff]
    rw [← e]; exact h)

set_option maxRecDepth 100000 in
set_option maxHeartbeats 8000000 in
theorem s8 (w : World) (mean mg mb) (h₀ : Heap) (L aL : Addr) (cd : Value) (m : Str → Option Value) (t : Addr) (k : Nat) (items : List Value) (ds : List Dat) (led : List (Addr × Obj))
   (hm : m "told" = some (.ref t)) (mt : (t, ({ cls := .type "list", data := .seq items.toArray k } : Obj)) ∈ led) (Da : DatAll led items ds) (ha : ∀ d ∈ ds, kqdOk 8 d = true) (hne : ds ≠ []) (s : Shared) (Q : Flow → Shared → Prop) (E : Value → Shared → Prop)
   (B : Below callerA h₀ [] h₀) (X : (Mine.hd.heap_1 w.params).In h₀) (T : Top VW LO mean mg mb h₀) (F : Fr h₀ L s.heap m) (N : News h₀ L s.heap led)
   (hret : ∀ h' tk', Fr h₀ L h' m → News h₀ L h' led → Q .next { s with heap := h', toks := tk' }) :
    wpAny (model PySem.Challenge.rw_pg0251_01.row.prog w) (lawA w L aL cd) (exec ((fnBody (lawO w)).getD 8 (.Pass default)) (lawE w L aL cd)) Q E s := by
  w_on; revert X; k_fill; intro X
  k_dflt (show wpAny _ (callerA.deeper (envOfC _ (Scope.mk _ _ _ _ _) _ _ _)) (exec (.If _ _ _ _) (envOfC _ (Scope.mk _ _ _ _ _) _ _ _)) _ _ _)
  (try dsimp only); (try k_fold)
  repeat' (first |  ((with_reducible show wpAny _ _ (compareOp CmpOp.Eq (Value.ref _) (Value.ref _)) _ _ _); (k_here; k_dflt (refine' eq_told (ys := []) false ?zqN ?zqma ?zqmb ?zqDa (DatAll.nil (news := [])) ?zqsa (fun _ h => nomatch h) ?zqha (fun _ h => nomatch h) ?zqhr ?zqhu ?_; (case zqN => k_asm); (case zqma => k_mem); (case zqmb => k_mem); (case zqDa => assumption); (case zqsa => (intro p hp; first | exact hp | exact List.Mem.tail _ hp | exact List.Mem.tail _ (List.Mem.tail _ hp))); (case zqha => assumption); (case zqhr => constructor <;> intro hq <;> first | exact absurd hq (by decide) | exact absurd hq (by assumption)); (case zqhu => ktr_units)); (try dsimp only))) | ((with_reducible show wpAny _ _ (exec (Stmt.For (Expr.Name _ _) (Expr.Name _ _) _ _ _) _) _ _ _); (k_here; (rename Fr _ _ _ _ => lF'); (with_unfolding_all refine' For_turns lF' ?_; k_whole))) | ((with_reducible show wpAny _ _ (call (Value.builtin "list.insert") _ _) _ _ _); ((with_reducible show wpAny _ _ (call _ (_ ++ _)) _ _ _); dsimp only [List.cons_append, List.nil_append])) | ((with_reducible show wpAny _ _ (subscriptTail _ _ (Value.ref _) _) _ _ _); (k_here; (with_reducible show wpAny _ _ (subscriptTail _ _ (Value.ref _) (Value.int _ _)) _ _ _); k_dflt (refine' sub_any ?zqk1 ?zqk2 ?zqkh ?zqk3 ?zqk4 ?zqk5 ?_; (case zqk1 => k_asm); (case zqk2 => k_mem); (case zqkh => first | exact .inr ⟨_, rfl⟩ | exact .inl ⟨_, rfl⟩); (case zqk3 => decide); (case zqk4 => decide); (case zqk5 => rfl)))) | ((with_reducible show wpAny _ _ (eval (Expr.Name _ _) _) _ _ _); (k_here; k_dflt (refine' nameX_L ?zqk1 ?zqk2 ?_; (case zqk1 => k_asm); (case zqk2 => assumption)))) | (k_unfold; (try dsimp only)) | (k_end; wrow_close) | (walk1 <;> (try dsimp only) <;> (try walk_at "mine split")) | (dsimp only; walk1) | (leave1; walk_say "STEP leave1"; try dsimp only) | fail "no step")
  all_goals first
  | exact hret _ _ (by k_asm) (by first | exact sufN (by k_asm) [] rfl | exact sufN (by k_asm) [_] rfl | exact sufN (by k_asm) [_, _] rfl | exact sufN (by k_asm) [_, _, _] rfl | exact sufN (by k_asm) [_, _, _, _] rfl | exact sufN (by k_asm) [_, _, _, _, _] rfl | exact sufN (by k_asm) [_, _, _, _, _, _] rfl | exact sufN (by k_asm) [_, _, _, _, _, _, _] rfl | exact sufN (by k_asm) [_, _, _, _, _, _, _, _] rfl | exact sufN (by k_asm) [_, _, _, _, _, _, _, _, _] rfl | exact sufN (by k_asm) [_, _, _, _, _, _, _, _, _, _] rfl | exact sufN (by k_asm) [_, _, _, _, _, _, _, _, _, _, _] rfl | exact sufN (by k_asm) [_, _, _, _, _, _, _, _, _, _, _, _] rfl | exact sufN (by k_asm) [_, _, _, _, _, _, _, _, _, _, _, _, _] rfl | exact sufN (by k_asm) [_, _, _, _, _, _, _, _, _, _, _, _, _, _] rfl | exact sufN (by k_asm) [_, _, _, _, _, _, _, _, _, _, _, _, _, _, _] rfl)

set_option maxRecDepth 100000 in
set_option maxHeartbeats 8000000 in
theorem s10 (w : World) (mean mg mb) (h₀ : Heap) (L aL : Addr) (cd : Value) (m : Str → Option Value) (t pt q1 q2 q3 : Addr) (k kt : Nat) (items : List Value) (l : List (PA × PA × PA)) (X₁ Y Z : List PA) (oP : Obj) (ds : List Dat) (led : List (Addr × Obj))
   (hm : m "told" = some (.ref t)) (mtd : (t, ({ cls := .type "list", data := .seq items.toArray k } : Obj)) ∈ led) (Da : DatAll led items ds) (ha : ∀ d ∈ ds, kqdOk 8 d = true) (hP : oP.data = .cell (some (.ref pt))) (mP : (L + 1, oP) ∈ led) (mt : (pt, ({ cls := .type "list", data := .seq #[.ref q1, .ref q2, .ref q3] kt } : Obj)) ∈ led) (px : PotIn led q1 X₁) (py : PotIn led q2 Y) (pz : PotIn led q3 Z) (hl : X₁.foldl (stepX Y Z) [] = l.map ad3) (hp : ∀ t ∈ l, PIn led t.1 ∧ PIn led t.2.1 ∧ PIn led t.2.2) (he : ds = l.map d3) (s : Shared) (Q : Flow → Shared → Prop) (E : Value → Shared → Prop)
   (B : Below callerA h₀ [] h₀) (X : (Mine.hd.heap_1 w.params).In h₀) (T : Top VW LO mean mg mb h₀) (F : Fr h₀ L s.heap m) (N : News h₀ L s.heap led)
   (hret : ∀ h' tk', Fr h₀ L h' m → Q (.ret (.bool true)) { s with heap := h', toks := tk' }) :
    wpAny (model PySem.Challenge.rw_pg0251_01.row.prog w) (lawA w L aL cd) (exec ((fnBody (lawO w)).getD 10 (.Pass default)) (lawE w L aL cd)) Q E s := by
  w_on; revert X; k_fill; intro X
  k_dflt (show wpAny _ (callerA.deeper (envOfC _ (Scope.mk _ _ _ _ _) _ _ _)) (exec (.Return _ _) (envOfC _ (Scope.mk _ _ _ _ _) _ _ _)) _ _ _)
  (try dsimp only); (try k_fold)
  repeat' (first | (k_here; (with_reducible show wpAny _ _ (eval (Expr.ListComp _ _ _ _) _) _ _ _); k_dflt (refine' comp10 (base := led) w mean mg mb ?B ?X ?T ?F ?N ?hP ?mP ?mt ?px ?py ?pz ?_; (case B => k_asm); (case X => k_asm); (case T => k_asm); (case F => k_asm); (case N => k_asm); (case hP => assumption); (case mP => assumption); (case mt => assumption); (case px => assumption); (case py => assumption); (case pz => assumption)); intro D' ys' objs' h' tk' F' N' hT'; rw [hl] at hT'; (try dsimp only); (try k_fold)) | (k_here; (with_reducible show wpAny _ _ (compareOp _ _ _) _ _ _); k_dflt (refine' eq_told true ?N ?ma ?mb ?Da ?Db ?sa ?sb ?ha ?hb ?hr ?hu ?_; (case N => k_asm); (case mb => exact List.Mem.head _); (case ma => exact List.Mem.tail _ (List.mem_append_left _ (by assumption))); (case Da => assumption); (case Db => exact told_dat (by assumption) (by assumption)); (case sa => intro p hp; exact List.Mem.tail _ (List.mem_append_left _ hp)); (case sb => intro p hp; exact List.Mem.tail _ hp); (case ha => assumption); (case hb => intro d hd; obtain ⟨q, _, rfl⟩ := List.mem_map.mp hd; exact d3_ok q); (case hr => exact iff_of_true rfl (by assumption)); (case hu => ktr_units)); (try dsimp only)) |  ((with_reducible show wpAny _ _ (compareOp CmpOp.Eq (Value.ref _) (Value.ref _)) _ _ _); (k_here; k_dflt (refine' eq_told (ys := []) false ?zqN ?zqma ?zqmb ?zqDa (DatAll.nil (news := [])) ?zqsa (fun _ h => nomatch h) ?zqha (fun _ h => nomatch h) ?zqhr ?zqhu ?_; (case zqN => k_asm); (case zqma => k_mem); (case zqmb => k_mem); (case zqDa => assumption); (case zqsa => (intro p hp; first | exact hp | exact List.Mem.tail _ hp | exact List.Mem.tail _ (List.Mem.tail _ hp))); (case zqha => assumption); (case zqhr => constructor <;> intro hq <;> first | exact absurd hq (by decide) | exact absurd hq (by assumption)); (case zqhu => ktr_units)); (try dsimp only))) | ((with_reducible show wpAny _ _ (exec (Stmt.For (Expr.Name _ _) (Expr.Name _ _) _ _ _) _) _ _ _); (k_here; (rename Fr _ _ _ _ => lF'); (with_unfolding_all refine' For_turns lF' ?_; k_whole))) | ((with_reducible show wpAny _ _ (call (Value.builtin "list.insert") _ _) _ _ _); ((with_reducible show wpAny _ _ (call _ (_ ++ _)) _ _ _); dsimp only [List.cons_append, List.nil_append])) | ((with_reducible show wpAny _ _ (subscriptTail _ _ (Value.ref _) _) _ _ _); (k_here; (with_reducible show wpAny _ _ (subscriptTail _ _ (Value.ref _) (Value.int _ _)) _ _ _); k_dflt (refine' sub_any ?zqk1 ?zqk2 ?zqkh ?zqk3 ?zqk4 ?zqk5 ?_; (case zqk1 => k_asm); (case zqk2 => k_mem); (case zqkh => first | exact .inr ⟨_, rfl⟩ | exact .inl ⟨_, rfl⟩); (case zqk3 => decide); (case zqk4 => decide); (case zqk5 => rfl)))) | ((with_reducible show wpAny _ _ (eval (Expr.Name _ _) _) _ _ _); (k_here; k_dflt (refine' nameX_L ?zqk1 ?zqk2 ?_; (case zqk1 => k_asm); (case zqk2 => assumption)))) | (k_unfold; (try dsimp only)) | (k_end; wrow_close) | (walk1 <;> (try dsimp only) <;> (try walk_at "mine split")) | (dsimp only; walk1) | (leave1; walk_say "STEP leave1"; try dsimp only) | fail "no step")
  all_goals first
  | exact hret _ _ (by k_asm)
  | skip
theorem ltNe {led : List (Addr × Obj)} {l : Addr} (h : ∀ p ∈ led, p.1 < l) : ∀ p ∈ led, p.1 ≠ l := fun p hp => Nat.ne_of_lt (h p hp)

set_option maxRecDepth 100000 in
set_option maxHeartbeats 8000000 in
theorem s6 (w : World) (mean mg mb) (h₀ : Heap) (L aL : Addr) (cd : Value) (m : Str → Option Value) (led : List (Addr × Obj))
    (s : Shared) (Q : Flow → Shared → Prop) (E : Value → Shared → Prop)
   (B : Below callerA h₀ [] h₀) (X : (Mine.hd.heap_1 w.params).In h₀) (T : Top VW LO mean mg mb h₀) (F : Fr h₀ L s.heap m) (N : News h₀ L s.heap led)
   (hret : ∀ t h' tk', Fr h₀ L h' (fun u => if u = Str.ofString "told" then some (.ref t) else m u) → News h₀ L h' ((t, ({ cls := .type "list", data := .seq #[] 0 } : Obj)) :: led) → (∀ p ∈ led, p.1 ≠ t) → Q .next { s with heap := h', toks := tk' }) :
    wpAny (model PySem.Challenge.rw_pg0251_01.row.prog w) (lawA w L aL cd) (exec ((fnBody (lawO w)).getD 6 (.Pass default)) (lawE w L aL cd)) Q E s := by
  w_on; revert X; k_fill; intro X
  k_dflt (show wpAny _ (callerA.deeper (envOfC _ (Scope.mk _ _ _ _ _) _ _ _)) (exec (.Assign _ _ _) (envOfC _ (Scope.mk _ _ _ _ _) _ _ _)) _ _ _)
  (try dsimp only); (try k_fold)
  repeat' (first |  ((with_reducible show wpAny _ _ (compareOp CmpOp.Eq (Value.ref _) (Value.ref _)) _ _ _); (k_here; k_dflt (refine' eq_told (ys := []) false ?zqN ?zqma ?zqmb ?zqDa (DatAll.nil (news := [])) ?zqsa (fun _ h => nomatch h) ?zqha (fun _ h => nomatch h) ?zqhr ?zqhu ?_; (case zqN => k_asm); (case zqma => k_mem); (case zqmb => k_mem); (case zqDa => assumption); (case zqsa => (intro p hp; first | exact hp | exact List.Mem.tail _ hp | exact List.Mem.tail _ (List.Mem.tail _ hp))); (case zqha => assumption); (case zqhr => constructor <;> intro hq <;> first | exact absurd hq (by decide) | exact absurd hq (by assumption)); (case zqhu => ktr_units)); (try dsimp only))) | ((with_reducible show wpAny _ _ (exec (Stmt.For (Expr.Name _ _) (Expr.Name _ _) _ _ _) _) _ _ _); (k_here; (rename Fr _ _ _ _ => lF'); (with_unfolding_all refine' For_turns lF' ?_; k_whole))) | ((with_reducible show wpAny _ _ (call (Value.builtin "list.insert") _ _) _ _ _); ((with_reducible show wpAny _ _ (call _ (_ ++ _)) _ _ _); dsimp only [List.cons_append, List.nil_append])) | ((with_reducible show wpAny _ _ (subscriptTail _ _ (Value.ref _) _) _ _ _); (k_here; (with_reducible show wpAny _ _ (subscriptTail _ _ (Value.ref _) (Value.int _ _)) _ _ _); k_dflt (refine' sub_any ?zqk1 ?zqk2 ?zqkh ?zqk3 ?zqk4 ?zqk5 ?_; (case zqk1 => k_asm); (case zqk2 => k_mem); (case zqkh => first | exact .inr ⟨_, rfl⟩ | exact .inl ⟨_, rfl⟩); (case zqk3 => decide); (case zqk4 => decide); (case zqk5 => rfl)))) | ((with_reducible show wpAny _ _ (eval (Expr.Name _ _) _) _ _ _); (k_here; k_dflt (refine' nameX_L ?zqk1 ?zqk2 ?_; (case zqk1 => k_asm); (case zqk2 => assumption)))) | (k_unfold; (try dsimp only)) | (k_end; wrow_close) | (walk1 <;> (try dsimp only) <;> (try walk_at "mine split")) | (dsimp only; walk1) | (leave1; walk_say "STEP leave1"; try dsimp only) | fail "no step")
  all_goals first
  | exact hret _ _ _ (by k_asm) (by k_asm) (ltNe (by assumption))
  | skip
end
section
theorem st5 (w : World) : ∃ px po, (fnBody (lawO w)).getD 5 (.Pass default) = .For (.Name (Str.ofString "pot") px) (forIter ((fnBody (lawO w)).getD 5 (.Pass default))) [forBody ((fnBody (lawO w)).getD 5 (.Pass default))] [] po := ⟨_, _, rfl⟩
theorem st9 (w : World) : ∃ po, (fnBody (lawO w)).getD 9 (.Pass default) = .For (forTgt ((fnBody (lawO w)).getD 9 (.Pass default))) (forIter ((fnBody (lawO w)).getD 9 (.Pass default))) (forStmts ((fnBody (lawO w)).getD 9 (.Pass default))) [] po := ⟨_, rfl⟩
theorem PotIn.grey {base : List (Addr × Obj)} {q : Addr} {P : List PA} (h : PotIn base q P) (g : PotG P) : ∃ (k : Nat) (p1 p2 p3 : Addr) (a1 b1 c1 a2 b2 c2 a3 b3 c3 : Int) (t1 t2 t3 t4 t5 t6 t7 t8 t9 : Tok), (q, ({ cls := .type "list", data := .seq #[.ref p1, .ref p2, .ref p3] k } : Obj)) ∈ base ∧
    (p1, tup3 a1 b1 c1 t1 t2 t3) ∈ base ∧ (p2, tup3 a2 b2 c2 t4 t5 t6) ∈ base ∧ (p3, tup3 a3 b3 c3 t7 t8 t9) ∈ base ∧ In8 a1 b1 c1 ∧ In8 a2 b2 c2 ∧ In8 a3 b3 c3 ∧
    1 * a3 + (1 * a2 + (1 * a1 + 0)) = 1 * b3 + (1 * b2 + (1 * b1 + 0)) ∧ 1 * b3 + (1 * b2 + (1 * b1 + 0)) = 1 * c3 + (1 * c2 + (1 * c1 + 0)) := by
  obtain ⟨k, p1, p2, p3, rfl, m, ⟨i1, t1, t2, t3, m1⟩, ⟨i2, t4, t5, t6, m2⟩, ⟨i3, t7, t8, t9, m3⟩⟩ := h
  obtain ⟨r1, r2, r3, e, _, _, _, g1, g2⟩ := g
  cases e
  exact ⟨k, _, _, _, _, _, _, _, _, _, _, _, _, t1, t2, t3, t4, t5, t6, t7, t8, t9, m, m1, m2, m3, i1, i2, i3, by (first | lia | omega), by (first | lia | omega)⟩
/-- for pot in read -/
theorem s5v {base : List (Addr × Obj)} (w : World) (mean mg mb) {h₀ : Heap} {L aL : Addr} {cd : Value} {m : Str → Option Value} {rd q1 q2 q3 : Addr} {k0 : Nat} {X₁ Y Z : List PA}
    {s : Shared} {Q : Flow → Shared → Prop} {E : Value → Shared → Prop} (F : Fr h₀ L s.heap m) (N : News h₀ L s.heap base) (hr : m "read" = some (.ref rd)) (mrd : rdObj rd q1 q2 q3 k0 ∈ base)
    (px : PotIn base q1 X₁) (py : PotIn base q2 Y) (pz : PotIn base q3 Z) (gx : PotG X₁) (gy : PotG Y) (gz : PotG Z)
    (B : Below callerA h₀ [] h₀) (X : (Mine.hd.heap_1 w.params).In h₀) (T : Top VW LO mean mg mb h₀) (hpo : PassesOwn (model PySem.Challenge.rw_pg0251_01.row.prog w) (lawA w L aL cd) (lawE w L aL cd) E)
    (c : ∀ m' h' tk', Fr h₀ L h' m' → Agr ["pot"] m m' → News h₀ L h' base → Q .next { s with heap := h', toks := tk' }) :
    wpAny (model PySem.Challenge.rw_pg0251_01.row.prog w) (lawA w L aL cd) (exec ((fnBody (lawO w)).getD 5 (.Pass default)) (lawE w L aL cd)) Q E s := by
  obtain ⟨pp, po, e⟩ := st5 w
  rw [e]
  refine for_inv (env := lawE w L aL cd) F (nm_read w mean mg mb h₀ L aL cd m rd base hr s _ E B X T F N fun h' tk' F' N' => ?_) hpo
  refine ⟨rd, [.ref q1, .ref q2, .ref q3], k0, m, _, fun i m' news => news = base ∧ Agr ["pot"] m m', rfl, rfl, F', N', ⟨rfl, Agr.refl⟩, ?_, ?_, ?_⟩
  · rintro i m' news' ⟨rfl, _⟩
    exact mrd
  · rintro i v m' news' I oI h tk hv ⟨rfl, ag⟩ hc hI' F₁ N₁
    have pick : ∃ q P, v = .ref q ∧ PotIn news' q P ∧ PotG P := by
      have hi : i < 3 := by
        rcases Nat.lt_or_ge i 3 with q | q
        · exact q
        · rw [List.getElem?_eq_none (by simpa using q)] at hv; cases hv
      match i, hi with
      | 0, _ => exact ⟨q1, X₁, (Option.some.inj hv).symm, px, gx⟩
      | 1, _ => exact ⟨q2, Y, (Option.some.inj hv).symm, py, gy⟩
      | 2, _ => exact ⟨q3, Z, (Option.some.inj hv).symm, pz, gz⟩
    obtain ⟨q, P, rfl, pP, gP⟩ := pick
    obtain ⟨k, p1, p2, p3, a1, b1, c1, a2, b2, c2, a3, b3, c3, t1, t2, t3, t4, t5, t6, t7, t8, t9, mq, m1, m2, m3, i1, i2, i3, g1, g2⟩ := pP.grey gP
    refine assignFr (by rfl) (by rfl) F₁ N₁ fun h₂ tk₂ F₂ N₂ => ?_
    refine exec1 (mix5 w mean mg mb h₀ L aL cd _ q k p1 p2 p3 a1 b1 c1 a2 b2 c2 a3 b3 c3 t1 t2 t3 t4 t5 t6 t7 t8 t9 ((I, oI) :: news') i1.1 i1.2.1 i1.2.2 i2.1 i2.2.1 i2.2.2 i3.1 i3.2.1 i3.2.2 g1 g2 (.tail _ mq) (.tail _ m1) (.tail _ m2) (.tail _ m3) (if_pos rfl) _ _ E B X T F₂ N₂ fun h₃ tk₃ F₃ N₃ => ?_) (fun f s' q => q.1)
    exact ⟨.inl rfl, h₃, tk₃, _, news', rfl, F₃, N₃, fun p hp => Nat.ne_of_lt (hI' p hp), rfl, Agr.set ag (by decide)⟩
  · rintro h tk m' news' F₁ N₁ ⟨rfl, ag⟩
    exact c m' h tk F₁ ag N₁
/-- for x, y, z in told -/
theorem s9v {base objs : List (Addr × Obj)} (w : World) (mean mg mb) {h₀ : Heap} {L aL : Addr} {cd : Value} {m : Str → Option Value} {t : Addr} {k n : Nat} {X₁ Y Z : List PA} {items : List Value}
    {s : Shared} {Q : Flow → Shared → Prop} {E : Value → Shared → Prop} (F : Fr h₀ L s.heap m) (N : News h₀ L s.heap (tObj t items k :: (base ++ objs))) (hr : m "told" = some (.ref t))
    (hT : TIn n t (((T3 X₁ Y Z).filter cB3).map ad3) items objs) (px : ∀ p ∈ X₁, PIn base p) (py : ∀ p ∈ Y, PIn base p) (pz : ∀ p ∈ Z, PIn base p)
    (B : Below callerA h₀ [] h₀) (X : (Mine.hd.heap_1 w.params).In h₀) (T : Top VW LO mean mg mb h₀) (hpo : PassesOwn (model PySem.Challenge.rw_pg0251_01.row.prog w) (lawA w L aL cd) (lawE w L aL cd) E)
    (c : ∀ m' h' tk', Fr h₀ L h' m' → Agr ["x", "y", "z", "parts"] m m' → News h₀ L h' (tObj t items k :: (base ++ objs)) → Q .next { s with heap := h', toks := tk' }) :
    wpAny (model PySem.Challenge.rw_pg0251_01.row.prog w) (lawA w L aL cd) (exec ((fnBody (lawO w)).getD 9 (.Pass default)) (lawE w L aL cd)) Q E s := by
  obtain ⟨po, e⟩ := st9 w
  rw [e]
  refine for_inv (env := lawE w L aL cd) F (nm_told w mean mg mb h₀ L aL cd m t _ hr s _ E B X T F N fun h' tk' F' N' => ?_) hpo
  refine ⟨t, items, k, m, _, fun i m' news => news = tObj t items k :: (base ++ objs) ∧ Agr ["x", "y", "z", "parts"] m m', rfl, rfl, F', N', ⟨rfl, Agr.refl⟩, ?_, ?_, ?_⟩
  · rintro i m' news' ⟨rfl, _⟩
    exact .head _
  · rintro i v m' news' I oI h tk hv ⟨rfl, ag⟩ hc hI' F₁ N₁
    obtain ⟨D, q, rfl, hq, mD⟩ := told_at hT hv
    obtain ⟨hq3, hcB⟩ := List.mem_filter.mp hq
    obtain ⟨qx, qy, qz⟩ := T3_mem.mp hq3
    obtain ⟨i1, t1, t2, t3, m1⟩ := px _ qx
    obtain ⟨i2, t4, t5, t6, m2⟩ := py _ qy
    obtain ⟨i3, t7, t8, t9, m3⟩ := pz _ qz
    have up : ∀ p ∈ base, p ∈ (I, oI) :: tObj t items k :: (base ++ objs) := fun p hp => .tail _ (.tail _ (List.mem_append_left _ hp))
    refine turn9 w mean mg mb h₀ L aL cd m' D q.1.1 q.2.1.1 q.2.2.1 0 _ _ _ _ _ _ _ _ _ t1 t2 t3 t4 t5 t6 t7 t8 t9 ((I, oI) :: tObj t items k :: (base ++ objs)) i1.1 i1.2.1 i1.2.2 i2.1 i2.2.1 i2.2.2 i3.1 i3.2.1 i3.2.2 ((can_plain i1 i2 i3).mp hcB) (.tail _ (.tail _ (List.mem_append_right _ mD))) (up _ m1) (up _ m2) (up _ m3) _ _ E B X T F₁ N₁ fun m₃ h₃ tk₃ F₃ ag₃ N₃ => ?_
    exact ⟨.inl rfl, h₃, tk₃, m₃, _, rfl, F₃, N₃, fun p hp => Nat.ne_of_lt (hI' p hp), rfl, Agr.step ag₃ (by decide) ag⟩
  · rintro h tk m' news' F₁ N₁ ⟨rfl, ag⟩
    exact c m' h tk F₁ ag N₁
theorem law_drop5 (w : World) : (fnBody (lawO w)).drop 5 = [(fnBody (lawO w)).getD 5 (.Pass default), (fnBody (lawO w)).getD 6 (.Pass default), (fnBody (lawO w)).getD 7 (.Pass default), (fnBody (lawO w)).getD 8 (.Pass default), (fnBody (lawO w)).getD 9 (.Pass default), (fnBody (lawO w)).getD 10 (.Pass default)] := rfl
/-- law from its sixth statement on -/
theorem law_tail {base : List (Addr × Obj)} (w : World) (mean mg mb) {h₀ : Heap} {L aL : Addr} {cd : Value} {m : Str → Option Value} {rd q1 q2 q3 pt r1 r2 r3 : Addr} {k0 kt : Nat} {X₁ Y₁ Z₁ X₂ Y₂ Z₂ : List PA} {oP : Obj}
    {s : Shared} {Q : Flow → Shared → Prop} {E : Value → Shared → Prop} (F : Fr h₀ L s.heap m) (N : News h₀ L s.heap base) (hr : m "read" = some (.ref rd)) (mrd : rdObj rd q1 q2 q3 k0 ∈ base)
    (px : PotIn base q1 X₁) (py : PotIn base q2 Y₁) (pz : PotIn base q3 Z₁) (gx : PotG X₁) (gy : PotG Y₁) (gz : PotG Z₁)
    (hP : oP.data = .cell (some (.ref pt))) (mP : (L + 1, oP) ∈ base) (mt : rdObj pt r1 r2 r3 kt ∈ base)
    (px2 : PotIn base r1 X₂) (py2 : PotIn base r2 Y₂) (pz2 : PotIn base r3 Z₂) (ex : X₁.map (·.2) = X₂.map (·.2)) (ey : Y₁.map (·.2) = Y₂.map (·.2)) (ez : Z₁.map (·.2) = Z₂.map (·.2))
    (B : Below callerA h₀ [] h₀) (X : (Mine.hd.heap_1 w.params).In h₀) (T : Top VW LO mean mg mb h₀) (hpo : PassesOwn (model PySem.Challenge.rw_pg0251_01.row.prog w) (lawA w L aL cd) (lawE w L aL cd) E)
    (c : ∀ m' h' tk', Fr h₀ L h' m' → Q (.ret (.bool true)) { s with heap := h', toks := tk' }) :
    wpAny (model PySem.Challenge.rw_pg0251_01.row.prog w) (lawA w L aL cd) (execs ((fnBody (lawO w)).drop 5) (lawE w L aL cd)) Q E s := by
  rw [law_drop5]
  refine wpAny_execs_cons (s5v w mean mg mb F N hr mrd px py pz gx gy gz B X T hpo fun m5 h5 tk5 F5 ag5 N5 => ?_)
  refine wpAny_execs_cons (s6 w mean mg mb h₀ L aL cd m5 base _ _ _ B X T F5 N5 fun t h6 tk6 F6 N6 off6 => ?_)
  have r6 : (fun u => if u = Str.ofString "told" then some (.ref t) else m5 u) "read" = some (.ref rd) := (if_neg (by decide)).trans (ag5.at (by decide) hr)
  refine wpAny_execs_cons (s7 w mean mg mb F6 N6 (if_pos rfl) r6 mrd px py pz off6 B X T hpo fun m7 h7 tk7 items k7 objs F7 ag7 N7 hT => ?_)
  rw [told_eq0] at hT
  have up : ∀ p ∈ base, p ∈ tObj t items k7 :: (base ++ objs) := fun p hp => .tail _ (List.mem_append_left _ hp)
  have hmem : ∀ q ∈ (T3 X₁ Y₁ Z₁).filter cB3, PIn base q.1 ∧ PIn base q.2.1 ∧ PIn base q.2.2 := fun q hq => by
    obtain ⟨a, b, c⟩ := T3_mem.mp (List.mem_filter.mp hq).1
    exact ⟨px.all _ a, py.all _ b, pz.all _ c⟩
  have Da := (told_dat hT hmem).mono (news' := tObj t items k7 :: (base ++ objs)) fun p hp => .tail _ hp
  have hok : ∀ d ∈ ((T3 X₁ Y₁ Z₁).filter cB3).map d3, kqdOk 8 d = true := fun d hd => by obtain ⟨q, _, rfl⟩ := List.mem_map.mp hd; exact d3_ok q
  have hne : ((T3 X₁ Y₁ Z₁).filter cB3).map d3 ≠ [] := fun e => told_some gx gy gz (List.map_eq_nil_iff.mp e)
  have t7 : m7 "told" = some (.ref t) := ag7.at (by decide) (if_pos rfl)
  refine wpAny_execs_cons (s8 w mean mg mb h₀ L aL cd m7 t k7 items _ _ t7 (.head _) Da hok hne _ _ _ B X T F7 N7 fun h8 tk8 F8 N8 => ?_)
  refine wpAny_execs_cons (s9v w mean mg mb F8 N8 t7 hT px.all py.all pz.all B X T hpo fun m9 h9 tk9 F9 ag9 N9 => ?_)
  have e10 := told_core X₁ Y₁ Z₁
  rw [ex, ey, ez, ← told_core] at e10
  refine wpAny_execs_cons (s10 w mean mg mb h₀ L aL cd m9 t pt r1 r2 r3 k7 kt items ((T3 X₂ Y₂ Z₂).filter cB3) X₂ Y₂ Z₂ oP _ _ (ag9.at (by decide) t7) (.head _) Da hok hP (up _ mP) (up _ mt) (px2.mono up) (py2.mono up) (pz2.mono up) (told_eq0 _ _ _) (fun q hq => ?_) e10 _ _ _ B X T F9 N9 fun h10 tk10 F10 => ?_)
  · obtain ⟨a, b, c⟩ := T3_mem.mp (List.mem_filter.mp hq).1
    exact ⟨(px2.all _ a).mono up, (py2.all _ b).mono up, (pz2.all _ c).mono up⟩
  · exact c m9 h10 tk10 F10
end
section
open PyProof.Rows.LCg
theorem storeCell {prog : Program} {w w' : World} {A : Around} {E : Value → Shared → Prop} {s : Shared} {L aL c : Addr} {cd : Value} {x : Str} {v : Value} {v₀ : Option Value} {o : Obj} {rest : List (Addr × Obj)} {h₀ : Heap} {m : Str → Option Value} {Q : Unit → Shared → Prop}
    (hl : (lawE w' L aL cd).kindOf x = some .cell) (hc : (lawE w' L aL cd).cells.lookup x = some c) (F : Fr h₀ L s.heap m) (N : News h₀ L s.heap ((c, o) :: rest)) (off : ∀ p ∈ rest, p.1 ≠ c) (hd : o.data = .cell v₀)
    (h : ∀ h' o', Fr h₀ L h' m → News h₀ L h' ((c, o') :: rest) → o'.data = .cell (some v) → Q () { s with heap := h' }) : wpAny (model prog w) A (storeName (lawE w' L aL cd) x v) Q E s := by
  have hm := N _ (.head _)
  refine wpAny_storeName_cell (by rfl) hl hc ⟨o, hm.1, hd⟩ fun h' hv hs => ?_
  obtain ⟨o', ho', hd'⟩ := hv
  refine h h' o' ⟨F.ns.sameBut hs (Ne.symm hm.2.1), fun b ob e => (hs.2 b (fun q => ?_)).trans (F.keep b ob e), F.above⟩ (News.setAt (own := []) N (fun _ h => nomatch h) off hs ho') hd'
  rw [q, hm.2.2] at e; cases e
noncomputable def SQ (led : List (Addr × Obj)) : Prop := ∀ p ∈ led, (∃ xs n, p.2.data = .seq xs n) ∧ (p.2.cls = .type "list" ∨ p.2.cls = .type "tuple")
theorem SQ.off {h₀ h : Heap} {L c : Addr} {o : Obj} {led all : List (Addr × Obj)} {v : Option Value} (q : SQ led) (N : News h₀ L h all) (hs : ∀ p ∈ led, p ∈ all) (hc : (c, o) ∈ all) (hd : o.data = .cell v) : ∀ p ∈ led, p.1 ≠ c := fun p hp e => by
  have h1 := (N p (hs p hp)).1
  have h2 := (N _ hc).1
  rw [e] at h1
  obtain ⟨⟨xs, n, hx⟩, _⟩ := q p hp
  rw [show p.2 = o from Option.some.inj (h1.symm.trans h2), hd] at hx
  cases hx
theorem SQ.offI {h₀ h : Heap} {L c : Addr} {o : Obj} {led all : List (Addr × Obj)} (q : SQ led) (N : News h₀ L h all) (hs : ∀ p ∈ led, p ∈ all) (hc : (c, o) ∈ all) (hd : o.cls = .type "list_iterator") : ∀ p ∈ led, p.1 ≠ c := fun p hp e => by
  have h1 := (N p (hs p hp)).1
  have h2 := (N _ hc).1
  rw [e] at h1
  obtain ⟨_, hx⟩ := q p hp
  rw [show p.2 = o from Option.some.inj (h1.symm.trans h2), hd] at hx
  rcases hx with hx | hx <;> exact absurd hx (by decide)
theorem SQ.cons {p : Addr × Obj} {led : List (Addr × Obj)} (h1 : ∃ xs n, p.2.data = .seq xs n) (h2 : p.2.cls = .type "list" ∨ p.2.cls = .type "tuple") (q : SQ led) : SQ (p :: led) := fun r hr => by
  rcases List.mem_cons.mp hr with rfl | hr
  · exact ⟨h1, h2⟩
  · exact q r hr
theorem stB1 (w : World) : ∃ p sp, (forStmts ((fnBody (lawO w)).getD 2 (.Pass default))).getD 0 (.Pass default) = .Assign [.Name (Str.ofString "both") p] (lcB w) sp ∧ ∀ L aL cd, swapsWith (lcB w) (some (.Name (Str.ofString "both") p)) sp.line (lawE w L aL cd) = pure false := ⟨_, _, rfl, fun _ _ _ => rfl⟩
/-- both = [..] -/
theorem pb1 (w : World) (mean mg mb) {h₀ : Heap} {L aL : Addr} {cd : Value} {m : Str → Option Value} {led : List (Addr × Obj)} {p1 p2 : Addr} {w2 w3 w4 : Obj} {v4 : Option Value} {a1 b1 c1 a2 b2 c2 : Int} {t1 t2 t3 t4 t5 t6 : Tok} {s : Shared} {Q : Flow → Shared → Prop} {E : Value → Shared → Prop}
    (B : Below callerA h₀ [] h₀) (X : (Mine.hd.heap_1 w.params).In h₀) (T : Top VW LO mean mg mb h₀) (F : Fr h₀ L s.heap m) (N : News h₀ L s.heap ((L + 1 + 1 + 1 + 1, w4) :: led)) (off : ∀ p ∈ led, p.1 ≠ L + 1 + 1 + 1 + 1) (d4 : w4.data = .cell v4)
    (d2 : w2.data = .cell (some (.ref p1))) (d3 : w3.data = .cell (some (.ref p2))) (mw2 : (L + 1 + 1, w2) ∈ led) (mw3 : (L + 1 + 1 + 1, w3) ∈ led) (m1 : (p1, tup3 a1 b1 c1 t1 t2 t3) ∈ led) (m2 : (p2, tup3 a2 b2 c2 t4 t5 t6) ∈ led)
    (hret : ∀ D u1 u2 u3 w4' h' tk', Fr h₀ L h' m → w4'.data = .cell (some (.ref D)) → News h₀ L h' ((L + 1 + 1 + 1 + 1, w4') :: (D, ({ cls := .type "list", data := .seq #[.int (a1 + a2) u1, .int (b1 + b2) u2, .int (c1 + c2) u3] 3 } : Obj)) :: led) → (∀ p ∈ led, p.1 ≠ D) → Q .next { s with heap := h', toks := tk' }) :
    wpAny (model PySem.Challenge.rw_pg0251_01.row.prog w) (lawA w L aL cd) (exec ((forStmts ((fnBody (lawO w)).getD 2 (.Pass default))).getD 0 (.Pass default)) (lawE w L aL cd)) Q E s := by
  obtain ⟨p, sp, e, hsw⟩ := stB1 w
  rw [e]
  refine wpAny_Assign_Name (bothC w mean mg mb B X T F N d2 d3 (.tail _ mw2) (.tail _ mw3) (.tail _ m1) (.tail _ m2) fun D u1 u2 u3 h₁ tk₁ F₁ N₁ off₁ => ?_) (hsw _ _ _)
  refine storeCell (c := L + 1 + 1 + 1 + 1) (rest := (D, ({ cls := .type "list", data := .seq #[.int (a1 + a2) u1, .int (b1 + b2) u2, .int (c1 + c2) u3] 3 } : Obj)) :: led) (by rfl) (by rfl) F₁ (swapN N₁) (fun p hp => ?_) d4 fun h₂ w4' F₂ N₂ d4' => ?_
  · rcases List.mem_cons.mp hp with rfl | hp
    · exact Ne.symm (off₁ _ (.head _))
    · exact off p hp
  · exact hret D u1 u2 u3 w4' h₂ _ F₂ d4' N₂ fun p hp => off₁ p (.tail _ hp)
theorem subM {h₀ h : Heap} {L : Addr} {led all : List (Addr × Obj)} (N : News h₀ L h all) (hs : ∀ p ∈ led, p ∈ all) : News h₀ L h led := fun p hp => N p (hs p hp)
noncomputable abbrev CL (L : Addr) (w1 w2 w3 w4 w5 : Obj) : List (Addr × Obj) := [(L + 1 + 1 + 1 + 1 + 1, w5), (L + 1 + 1 + 1 + 1, w4), (L + 1 + 1 + 1, w3), (L + 1 + 1, w2), (L + 1, w1)]
/-- what the loop that fills pots keeps -/
structure PJ (L pt : Addr) (base : List (Addr × Obj)) (i : Nat) (news : List (Addr × Obj)) : Prop where
  out : ∃ (w1 w2 w3 w4 w5 : Obj) (v2 v3 v4 v5 : Option Value) (qs : List Addr) (Ps : List (List PA)) (k : Nat) (led : List (Addr × Obj)), news = CL L w1 w2 w3 w4 w5 ++ tObj pt (qs.map Value.ref) k :: led ∧ w1.data = .cell (some (.ref pt)) ∧ w2.data = .cell v2 ∧ w3.data = .cell v3 ∧ w4.data = .cell v4 ∧ w5.data = .cell v5 ∧
    SQ led ∧ (∀ p ∈ led, p.1 ≠ pt) ∧ (∀ p ∈ base, p ∈ led) ∧ qs.length = i ∧ Ps.length = i ∧ ∀ (j : Nat) (q : Addr) (P : List PA), qs[j]? = some q → Ps[j]? = some P → PotIn led q P ∧ PotG P
theorem far5 {L a : Nat} (h : L + 1 + 1 + 1 + 1 + 1 < a) : a ≠ L + 1 ∧ a ≠ L + 1 + 1 ∧ a ≠ L + 1 + 1 + 1 ∧ a ≠ L + 1 + 1 + 1 + 1 ∧ a ≠ L + 1 + 1 + 1 + 1 + 1 := by
  have u1 := Nat.lt_of_succ_lt h
  have u2 := Nat.lt_of_succ_lt u1
  have u3 := Nat.lt_of_succ_lt u2
  have u4 := Nat.lt_of_succ_lt u3
  exact ⟨Nat.ne_of_gt u4, Nat.ne_of_gt u3, Nat.ne_of_gt u2, Nat.ne_of_gt u1, Nat.ne_of_gt h⟩
theorem up1 (n : Nat) : n ≠ n + 1 := Nat.ne_of_lt (Nat.lt_succ_self n)
theorem up2 (n : Nat) : n ≠ n + 1 + 1 := Nat.ne_of_lt (Nat.lt_succ_of_lt (Nat.lt_succ_self n))
theorem up3 (n : Nat) : n ≠ n + 1 + 1 + 1 := Nat.ne_of_lt (Nat.lt_succ_of_lt (Nat.lt_succ_of_lt (Nat.lt_succ_self n)))
theorem up4 (n : Nat) : n ≠ n + 1 + 1 + 1 + 1 := Nat.ne_of_lt (Nat.lt_succ_of_lt (Nat.lt_succ_of_lt (Nat.lt_succ_of_lt (Nat.lt_succ_self n))))
theorem near5 (L : Nat) : L + 1 ≠ L + 1 + 1 ∧ L + 1 ≠ L + 1 + 1 + 1 ∧ L + 1 ≠ L + 1 + 1 + 1 + 1 ∧ L + 1 ≠ L + 1 + 1 + 1 + 1 + 1 ∧ L + 1 + 1 ≠ L + 1 ∧ L + 1 + 1 ≠ L + 1 + 1 + 1 ∧ L + 1 + 1 ≠ L + 1 + 1 + 1 + 1 ∧ L + 1 + 1 ≠ L + 1 + 1 + 1 + 1 + 1 ∧ L + 1 + 1 + 1 ≠ L + 1 ∧ L + 1 + 1 + 1 ≠ L + 1 + 1 ∧ L + 1 + 1 + 1 ≠ L + 1 + 1 + 1 + 1 ∧ L + 1 + 1 + 1 ≠ L + 1 + 1 + 1 + 1 + 1 ∧ L + 1 + 1 + 1 + 1 ≠ L + 1 ∧ L + 1 + 1 + 1 + 1 ≠ L + 1 + 1 ∧ L + 1 + 1 + 1 + 1 ≠ L + 1 + 1 + 1 ∧ L + 1 + 1 + 1 + 1 ≠ L + 1 + 1 + 1 + 1 + 1 ∧ L + 1 + 1 + 1 + 1 + 1 ≠ L + 1 ∧ L + 1 + 1 + 1 + 1 + 1 ≠ L + 1 + 1 ∧ L + 1 + 1 + 1 + 1 + 1 ≠ L + 1 + 1 + 1 ∧ L + 1 + 1 + 1 + 1 + 1 ≠ L + 1 + 1 + 1 + 1 := ⟨up1 _, up2 _, up3 _, up4 _, (up1 _).symm, up1 _, up2 _, up3 _, (up2 _).symm, (up1 _).symm, up1 _, up2 _, (up3 _).symm, (up2 _).symm, (up1 _).symm, up1 _, (up4 _).symm, (up3 _).symm, (up2 _).symm, (up1 _).symm⟩
theorem allC {P : (Addr × Obj) → Prop} {q : Addr × Obj} {l : List (Addr × Obj)} (h : P q) (t : ∀ p ∈ l, P p) : ∀ p ∈ q :: l, P p := List.forall_mem_cons.mpr ⟨h, t⟩
set_option maxHeartbeats 4000000 in
/-- one turn of the loop that fills pots -/
theorem potstep (w : World) (mean mg mb) {h₀ : Heap} {L aL I pt sl : Addr} {cd : Value} {m : Str → Option Value} {base news : List (Addr × Obj)} {oI : Obj} {x y : PA} {i : Nat} {s : Shared} {E : Value → Shared → Prop}
    (B : Below callerA h₀ [] h₀) (X : (Mine.hd.heap_1 w.params).In h₀) (T : Top VW LO mean mg mb h₀) (F : Fr h₀ L s.heap m) (N : News h₀ L s.heap ((I, oI) :: news)) (hJ : PJ L pt base i news) (hi : i ≤ 2) (hc : oI.cls = .type "list_iterator")
    (hptI : pt ≠ I) (hpt : L + 1 + 1 + 1 + 1 + 1 < pt) (hI : L + 1 + 1 + 1 + 1 + 1 < I) (ms : (sl, ({ cls := .type "list", data := .seq #[.ref x.1, .ref y.1] 0 } : Obj)) ∈ base) (hx : DIn base x) (hy : DIn base y) :
    wpAny (model PySem.Challenge.rw_pg0251_01.row.prog w) (lawA w L aL cd) (assign (forTgt ((fnBody (lawO w)).getD 2 (.Pass default))) (lawE w L aL cd) (.ref sl)) (fun _ s₂ => wpAny (model PySem.Challenge.rw_pg0251_01.row.prog w) (lawA w L aL cd) (execs (forStmts ((fnBody (lawO w)).getD 2 (.Pass default))) (lawE w L aL cd))
      (TurnQ h₀ L s I oI (fun m' news => m' = m ∧ PJ L pt base (i + 1) news)) E s₂) E s := by
  obtain ⟨w1, w2, w3, w4, w5, v2, v3, v4, v5, qs, Ps, k, led, rfl, d1, d2, d3, d4, d5, sq, op, hb, hq, hP, hall⟩ := hJ.out
  obtain ⟨⟨i1, i2, i3⟩, t1, t2, t3, mx⟩ := hx
  obtain ⟨⟨i4, i5, i6⟩, t4, t5, t6, my⟩ := hy
  have sub : ∀ p ∈ led, p ∈ (I, oI) :: (CL L w1 w2 w3 w4 w5 ++ tObj pt (qs.map Value.ref) k :: led) := fun p hp => .tail _ (List.mem_append_right _ (.tail _ hp))
  have c1 := sq.off N sub (c := L + 1) (o := w1) (by first | walk_at "mine mem" | simp) d1
  have c2 := sq.off N sub (c := L + 1 + 1) (o := w2) (by first | walk_at "mine mem" | simp) d2
  have c3 := sq.off N sub (c := L + 1 + 1 + 1) (o := w3) (by first | walk_at "mine mem" | simp) d3
  have c4 := sq.off N sub (c := L + 1 + 1 + 1 + 1) (o := w4) (by first | walk_at "mine mem" | simp) d4
  have cI := sq.offI N sub (c := I) (o := oI) (.head _) hc
  obtain ⟨I1, I2, I3, I4, I5⟩ := far5 hI
  obtain ⟨P1, P2, P3, P4, P5⟩ := far5 hpt
  obtain ⟨e01, e02, e03, e04, e10, e12, e13, e14, e20, e21, e23, e24, e30, e31, e32, e34, e40, e41, e42, e43⟩ := near5 L
  refine pa2 w mean mg mb h₀ L aL cd m sl x.1 y.1 0 w2 w3 v2 v3 ([(I, oI), (L + 1 + 1 + 1 + 1 + 1, w5), (L + 1 + 1 + 1 + 1, w4), (L + 1, w1), tObj pt (qs.map Value.ref) k] ++ led) d2 d3 (allC I2 (allC e41 (allC e31 (allC e01 (allC P2 c2))))) (allC I3 (allC e42 (allC e32 (allC e02 (allC P3 c3))))) e12 e21 (List.mem_append_right _ (hb _ ms)) s _ E B X T F (subM N (allC (by first | walk_at "mine mem" | simp) (allC (by first | walk_at "mine mem" | simp) (allC (by first | walk_at "mine mem" | simp) (allC (by first | walk_at "mine mem" | simp) (allC (by first | walk_at "mine mem" | simp) (allC (by first | walk_at "mine mem" | simp) (allC (by first | walk_at "mine mem" | simp) sub)))))))) fun w2' w3' h₁ tk₁ F₁ d2' d3' N₁ => ?_
  refine wpAny_execs_cons ?_
  refine pb1 w mean mg mb (led := [(I, oI), (L + 1 + 1 + 1 + 1 + 1, w5), (L + 1 + 1 + 1, w3'), (L + 1 + 1, w2'), (L + 1, w1), tObj pt (qs.map Value.ref) k] ++ led) B X T F₁ (subM N₁ (allC (by first | walk_at "mine mem" | simp) (allC (by first | walk_at "mine mem" | simp) (allC (by first | walk_at "mine mem" | simp) (allC (by first | walk_at "mine mem" | simp) (allC (by first | walk_at "mine mem" | simp) (allC (by first | walk_at "mine mem" | simp) (allC (by first | walk_at "mine mem" | simp) (fun p hp => by first | walk_at "mine mem" | simp [hp]))))))))) (allC I4 (allC e43 (allC e23 (allC e13 (allC e03 (allC P4 c4)))))) d4 d2' d3' (by first | walk_at "mine mem" | simp) (by first | walk_at "mine mem" | simp) (List.mem_append_right _ (hb _ mx)) (List.mem_append_right _ (hb _ my)) fun D u1 u2 u3 w4' h₂ tk₂ F₂ d4' N₂ offD => ?_
  refine wpAny_execs_cons ?_
  refine pb2 w mean mg mb h₀ L aL cd m x.1 y.1 pt D _ _ _ u1 u2 u3 k (qs.map Value.ref) w1 w2' w3' w4' ([(D, ({ cls := .type "list", data := .seq #[.int (x.2.1 + y.2.1) u1, .int (x.2.2.1 + y.2.2.1) u2, .int (x.2.2.2 + y.2.2.2) u3] 3 } : Obj)), (I, oI), (L + 1 + 1 + 1 + 1 + 1, w5), (L + 1 + 1 + 1 + 1, w4'), (L + 1 + 1 + 1, w3'), (L + 1 + 1, w2'), (L + 1, w1)] ++ led) d1 d2' d3' d4' (by first | walk_at "mine mem" | simp) (by first | walk_at "mine mem" | simp) (by first | walk_at "mine mem" | simp) (by first | walk_at "mine mem" | simp) (allC (Ne.symm (offD (tObj pt (qs.map Value.ref) k) (by first | walk_at "mine mem" | simp))) (allC (Ne.symm hptI) (allC (Ne.symm P5) (allC (Ne.symm P4) (allC (Ne.symm P3) (allC (Ne.symm P2) (allC (Ne.symm P1) op))))))) (by rw [List.length_map, hq]; (first | lia | omega)) (List.mem_append_left _ (.head _)) _ _ E B X T F₂ (subM N₂ (allC (by first | walk_at "mine mem" | simp) (allC (by first | walk_at "mine mem" | simp) (allC (by first | walk_at "mine mem" | simp) (allC (by first | walk_at "mine mem" | simp) (allC (by first | walk_at "mine mem" | simp) (allC (by first | walk_at "mine mem" | simp) (allC (by first | walk_at "mine mem" | simp) (allC (by first | walk_at "mine mem" | simp) (fun p hp => by first | walk_at "mine mem" | simp [hp])))))))))) fun q Tq M u4 u5 u6 kq h₃ tk₃ F₃ N₃ N₄ hqp hTp hM => ?_
  refine wpAny_execs_nil ?_
  have sub' : ∀ p ∈ led, p ∈ (I, oI) :: (CL L w1 w2' w3' w4' w5 ++ tObj pt ((qs ++ [q]).map Value.ref) (k + 1) :: (q, ({ cls := .type "list", data := .seq #[.ref x.1, .ref y.1, .ref Tq] kq } : Obj)) :: (Tq, tup3 (M - (x.2.1 + y.2.1)) (M - (x.2.2.1 + y.2.2.1)) (M - (x.2.2.2 + y.2.2.2)) u4 u5 u6) :: led) := fun p hp => by simp [hp]
  have e : (qs.map Value.ref).toArray.push (Value.ref q) = ((qs ++ [q]).map Value.ref).toArray := by simp
  rw [e] at N₃
  have NN : News h₀ L h₃ ((I, oI) :: (CL L w1 w2' w3' w4' w5 ++ tObj pt ((qs ++ [q]).map Value.ref) (k + 1) :: (q, ({ cls := .type "list", data := .seq #[.ref x.1, .ref y.1, .ref Tq] kq } : Obj)) :: (Tq, tup3 (M - (x.2.1 + y.2.1)) (M - (x.2.2.1 + y.2.2.1)) (M - (x.2.2.2 + y.2.2.2)) u4 u5 u6) :: led)) := (allC (N₃ _ (by first | walk_at "mine mem" | simp)) (allC (N₃ _ (by first | walk_at "mine mem" | simp)) (allC (N₃ _ (by first | walk_at "mine mem" | simp)) (allC (N₃ _ (by first | walk_at "mine mem" | simp)) (allC (N₃ _ (by first | walk_at "mine mem" | simp)) (allC (N₃ _ (by first | walk_at "mine mem" | simp)) (allC (N₃ _ (by first | walk_at "mine mem" | simp)) (allC (N₄ _ (by first | walk_at "mine mem" | simp)) (allC (N₄ _ (by first | walk_at "mine mem" | simp)) (fun p hp => N₃ _ (by simp [hp])))))))))))
  have sq' : SQ ((q, ({ cls := .type "list", data := .seq #[.ref x.1, .ref y.1, .ref Tq] kq } : Obj)) :: (Tq, tup3 (M - (x.2.1 + y.2.1)) (M - (x.2.2.1 + y.2.2.1)) (M - (x.2.2.2 + y.2.2.2)) u4 u5 u6) :: led) := .cons ⟨_, _, rfl⟩ (.inl rfl) (.cons ⟨_, _, rfl⟩ (.inr rfl) sq)
  refine ⟨.inl rfl, h₃, tk₃, m, _, rfl, F₃, NN, fun p hp => ?_, rfl, ⟨w1, w2', w3', w4', w5, _, _, _, v5, qs ++ [q], Ps ++ [[x, y, (Tq, M - (x.2.1 + y.2.1), M - (x.2.2.1 + y.2.2.1), M - (x.2.2.2 + y.2.2.2))]], k + 1, _, rfl, d1, d2', d3', d4', d5, sq', ?_, fun p hp => .tail _ (.tail _ (hb p hp)), by simp [hq], by simp [hP], ?_⟩⟩
  · have cI' := sq'.offI NN (c := I) (o := oI) (fun p hp => .tail _ (List.mem_append_right _ (.tail _ hp))) (.head _) hc
    exact (allC (P := fun p => p.1 ≠ I) (Ne.symm I5) (allC (Ne.symm I4) (allC (Ne.symm I3) (allC (Ne.symm I2) (allC (Ne.symm I1) (allC hptI cI')))))) p hp
  · intro p hp
    rcases List.mem_cons.mp hp with rfl | hp
    · exact hqp
    rcases List.mem_cons.mp hp with rfl | hp
    · exact hTp
    · exact op p hp
  · intro j q' P' h1 h2
    have up : ∀ p ∈ led, p ∈ (q, ({ cls := .type "list", data := .seq #[.ref x.1, .ref y.1, .ref Tq] kq } : Obj)) :: (Tq, tup3 (M - (x.2.1 + y.2.1)) (M - (x.2.2.1 + y.2.2.1)) (M - (x.2.2.2 + y.2.2.2)) u4 u5 u6) :: led := fun p hp => .tail _ (.tail _ hp)
    by_cases hj : j < qs.length
    · rw [List.getElem?_append_left hj] at h1
      rw [List.getElem?_append_left (by rw [hP, ← hq]; exact hj)] at h2
      obtain ⟨a, b⟩ := hall j q' P' h1 h2
      exact ⟨a.mono up, b⟩
    · have ej : j = qs.length := by
        rcases Nat.lt_or_ge j (qs ++ [q]).length with r | r
        · simp at r; (first | lia | omega)
        · rw [List.getElem?_eq_none r] at h1; cases h1
      subst ej
      rw [List.getElem?_append_right (Nat.le_refl _), Nat.sub_self] at h1
      rw [List.getElem?_append_right (by rw [hP, hq]; exact Nat.le_refl _), hP, hq, Nat.sub_self] at h2
      have h1' : q = q' := by simpa using h1
      have h2' := Option.some.inj (show some _ = some P' from by simpa using h2)
      subst h1'
      rw [← h2']
      unfold MxP at hM
      have j3 : In8 (M - (x.2.1 + y.2.1)) (M - (x.2.2.1 + y.2.2.1)) (M - (x.2.2.2 + y.2.2.2)) := by unfold In8; (first | lia | omega)
      have j1 : In8 x.2.1 x.2.2.1 x.2.2.2 := by unfold In8; (first | lia | omega)
      have j2 : In8 y.2.1 y.2.2.1 y.2.2.2 := by unfold In8; (first | lia | omega)
      exact ⟨⟨kq, x, y, _, rfl, .head _, ⟨j1, t1, t2, t3, up _ (hb _ mx)⟩, ⟨j2, t4, t5, t6, up _ (hb _ my)⟩, ⟨j3, u4, u5, u6, .tail _ (.head _)⟩⟩, x, y, _, rfl, j1, j2, j3, by dsimp only; (first | lia | omega), by dsimp only; (first | lia | omega)⟩

theorem st2 (w : World) : ∃ po, (fnBody (lawO w)).getD 2 (.Pass default) = .For (forTgt ((fnBody (lawO w)).getD 2 (.Pass default))) (forIter ((fnBody (lawO w)).getD 2 (.Pass default))) (forStmts ((fnBody (lawO w)).getD 2 (.Pass default))) [] po := ⟨_, rfl⟩
theorem neData {h₀ h : Heap} {L a b : Addr} {o o' : Obj} {all : List (Addr × Obj)} (N : News h₀ L h all) (ha : (a, o) ∈ all) (hb : (b, o') ∈ all) (hd : o.data ≠ o'.data) : a ≠ b := fun e => by
  have h1 := (N _ ha).1
  have h2 := (N _ hb).1
  rw [show (a, o).1 = (b, o').1 from e] at h1
  exact hd (congrArg Obj.data (Option.some.inj (h1.symm.trans h2)))
theorem neList {xs ys : List Value} {k k' : Nat} (h : xs.length ≠ ys.length) : (Data.seq xs.toArray k : Data) ≠ Data.seq ys.toArray k' := fun e => by
  injection e with e1 e2
  exact h (by rw [← List.size_toArray, e1, List.size_toArray])
set_option maxHeartbeats 4000000 in
/-- the loop that fills pots -/
theorem s2 (w : World) (mean mg mb) {h₀ : Heap} {L aL pt D : Addr} {cd : Value} {m : Str → Option Value} {led : List (Addr × Obj)} {w1 w2 w3 w4 w5 : Obj} {v2 v3 v4 v5 : Option Value} {k : Nat} {p1 p2 p3 p4 p5 p6 : PA} {s : Shared} {Q : Flow → Shared → Prop} {E : Value → Shared → Prop}
    (B : Below callerA h₀ [] h₀) (X : (Mine.hd.heap_1 w.params).In h₀) (T : Top VW LO mean mg mb h₀) (hpo : PassesOwn (model PySem.Challenge.rw_pg0251_01.row.prog w) (lawA w L aL cd) (lawE w L aL cd) E) (F : Fr h₀ L s.heap m) (N : News h₀ L s.heap (CL L w1 w2 w3 w4 w5 ++ tObj pt [] k :: led))
    (d1 : w1.data = .cell (some (.ref pt))) (d2 : w2.data = .cell v2) (d3 : w3.data = .cell v3) (d4 : w4.data = .cell v4) (d5 : w5.data = .cell v5) (sq : SQ led) (op : ∀ p ∈ led, p.1 ≠ pt) (hpt : L + 1 + 1 + 1 + 1 + 1 < pt)
    (hm : m "drawn" = some (.ref D)) (mD : (D, lst [.ref p1.1, .ref p2.1, .ref p3.1, .ref p4.1, .ref p5.1, .ref p6.1]) ∈ led) (q1 : DIn led p1) (q2 : DIn led p2) (q3 : DIn led p3) (q4 : DIn led p4) (q5 : DIn led p5) (q6 : DIn led p6)
    (hret : ∀ (w1 w2 w3 w4 w5 : Obj) (v2 v3 v4 v5 : Option Value) (r1 r2 r3 : Addr) (X₂ Y₂ Z₂ : List PA) (k : Nat) (led' : List (Addr × Obj)) h' tk', Fr h₀ L h' m → News h₀ L h' (CL L w1 w2 w3 w4 w5 ++ rdObj pt r1 r2 r3 k :: led') → w1.data = .cell (some (.ref pt)) → w5.data = .cell v5 → SQ led' → (∀ p ∈ led', p.1 ≠ pt) →
      PotIn led' r1 X₂ → PotG X₂ → PotIn led' r2 Y₂ → PotG Y₂ → PotIn led' r3 Z₂ → PotG Z₂ → Q .next { s with heap := h', toks := tk' }) :
    wpAny (model PySem.Challenge.rw_pg0251_01.row.prog w) (lawA w L aL cd) (exec ((fnBody (lawO w)).getD 2 (.Pass default)) (lawE w L aL cd)) Q E s := by
  obtain ⟨po, e⟩ := st2 w
  rw [e]
  refine for_inv (env := lawE w L aL cd) F (it2 w mean mg mb h₀ L aL cd m D p1.1 p2.1 p3.1 p4.1 p5.1 p6.1 6 (CL L w1 w2 w3 w4 w5 ++ tObj pt [] k :: led) hm (List.mem_append_right _ (.tail _ mD)) s _ E B X T F N fun l s1 s2 s3 h₁ tk₁ F₁ N₁ => ?_) hpo
  let l3 : List (Addr × Obj) := [(l, { cls := .type "list", data := .seq #[.ref s1, .ref s2, .ref s3] 0 }), (s3, { cls := .type "list", data := .seq #[.ref p5.1, .ref p6.1] 0 }), (s2, { cls := .type "list", data := .seq #[.ref p3.1, .ref p4.1] 0 }), (s1, { cls := .type "list", data := .seq #[.ref p1.1, .ref p2.1] 0 })]
  have sq1 : SQ (l3 ++ led) := .cons ⟨_, _, rfl⟩ (.inl rfl) (.cons ⟨_, _, rfl⟩ (.inl rfl) (.cons ⟨_, _, rfl⟩ (.inl rfl) (.cons ⟨_, _, rfl⟩ (.inl rfl) sq)))
  have mp : tObj pt [] k ∈ (l3 ++ (CL L w1 w2 w3 w4 w5 ++ tObj pt [] k :: led)) := List.mem_append_right _ (List.mem_append_right _ (.head _))
  have op1 : ∀ p ∈ l3 ++ led, p.1 ≠ pt := fun p hp => by
    rcases List.mem_append.mp hp with hp | hp
    · rcases List.mem_cons.mp hp with rfl | hp
      · exact neData N₁ (.head _) mp (neList (xs := [_, _, _]) (ys := []) (by first | walk_at "mine mem" | simp))
      rcases List.mem_cons.mp hp with rfl | hp
      · exact neData N₁ (.tail _ (.head _)) mp (neList (xs := [_, _]) (ys := []) (by first | walk_at "mine mem" | simp))
      rcases List.mem_cons.mp hp with rfl | hp
      · exact neData N₁ (.tail _ (.tail _ (.head _))) mp (neList (xs := [_, _]) (ys := []) (by first | walk_at "mine mem" | simp))
      rcases List.mem_cons.mp hp with rfl | hp
      · exact neData N₁ (.tail _ (.tail _ (.tail _ (.head _)))) mp (neList (xs := [_, _]) (ys := []) (by first | walk_at "mine mem" | simp))
      · cases hp
    · exact op p hp
  have up : ∀ {p : PA}, DIn led p → DIn (l3 ++ led) p := fun h => by
    obtain ⟨i, t, u, v, m⟩ := h; exact ⟨i, t, u, v, List.mem_append_right _ m⟩
  have NJ : News h₀ L h₁ (CL L w1 w2 w3 w4 w5 ++ tObj pt [] k :: (l3 ++ led)) := subM N₁ fun p hp => by
    rcases List.mem_append.mp hp with hp | hp
    · exact List.mem_append_right l3 (List.mem_append_left _ hp)
    rcases List.mem_cons.mp hp with rfl | hp
    · exact mp
    rcases List.mem_append.mp hp with hp | hp
    · exact List.mem_append_left _ hp
    · exact List.mem_append_right l3 (List.mem_append_right (CL L w1 w2 w3 w4 w5) (.tail _ hp))
  refine ⟨l, [.ref s1, .ref s2, .ref s3], 0, m, _, fun i m' news => m' = m ∧ PJ L pt (l3 ++ led) i news, rfl, rfl, F₁, NJ, ⟨rfl, ⟨w1, w2, w3, w4, w5, v2, v3, v4, v5, [], [], k, _, rfl, d1, d2, d3, d4, d5, sq1, op1, fun p hp => hp, rfl, rfl, fun j q P h => by simp at h⟩⟩, ?_, ?_, ?_⟩
  · rintro i m' news' ⟨rfl, hJ⟩
    obtain ⟨w1, w2, w3, w4, w5, v2, v3, v4, v5, qs, Ps, k, led', rfl, _, _, _, _, _, _, _, hb, _⟩ := hJ.out
    exact List.mem_append_right _ (.tail _ (hb _ (List.mem_append_left _ (.head _))))
  · rintro i v m' news' I oI h tk hv ⟨rfl, hJ⟩ hc hI' F₂ N₂
    have g5 : L + 1 + 1 + 1 + 1 + 1 < I := hI' (L + 1 + 1 + 1 + 1 + 1, w5) (List.mem_append_left _ (.head _))
    have gp : pt < I := hI' (tObj pt [] k) (List.mem_append_right _ (.head _))
    have hi : i < 3 := by
      rcases Nat.lt_or_ge i 3 with q | q
      · exact q
      · rw [List.getElem?_eq_none (by simpa using q)] at hv; cases hv
    have pick : ∃ (sl : Addr) (x y : PA), v = .ref sl ∧ (sl, ({ cls := .type "list", data := .seq #[.ref x.1, .ref y.1] 0 } : Obj)) ∈ l3 ++ led ∧ DIn led x ∧ DIn led y := by
      rcases lt3 hi with rfl | rfl | rfl
      · exact ⟨s1, p1, p2, (Option.some.inj hv).symm, List.mem_append_left _ (.tail _ (.tail _ (.tail _ (.head _)))), q1, q2⟩
      · exact ⟨s2, p3, p4, (Option.some.inj hv).symm, List.mem_append_left _ (.tail _ (.tail _ (.head _))), q3, q4⟩
      · exact ⟨s3, p5, p6, (Option.some.inj hv).symm, List.mem_append_left _ (.tail _ (.head _)), q5, q6⟩
    obtain ⟨sl, x, y, rfl, msl, dx, dy⟩ := pick
    exact potstep w mean mg mb (s := { s with heap := h, toks := tk }) B X T F₂ N₂ hJ (by (first | lia | omega)) hc (Nat.ne_of_lt gp) hpt g5 msl (up dx) (up dy)
  · rintro h tk m' news' F₂ N₂ ⟨rfl, hJ⟩
    obtain ⟨w1, w2, w3, w4, w5, v2, v3, v4, v5, qs, Ps, k, led', rfl, d1, d2, d3, d4, d5, sq, op, hb, hq, hP, hall⟩ := hJ.out
    match qs, hq, Ps, hP with
    | [r1, r2, r3], _, [P1, P2, P3], _ =>
      obtain ⟨a1, b1⟩ := hall 0 r1 P1 rfl rfl
      obtain ⟨a2, b2⟩ := hall 1 r2 P2 rfl rfl
      obtain ⟨a3, b3⟩ := hall 2 r3 P3 rfl rfl
      exact hret w1 w2 w3 w4 w5 v2 v3 v4 v5 r1 r2 r3 P1 P2 P3 k led' h tk F₂ N₂ d1 d5 sq op a1 b1 a2 b2 a3 b3
end
section
open PyProof.Rows.LCg
theorem lcS_eq (w : World) : ∃ p, lcS w = .ListComp (lcElt (lcS w)) [⟨.Name (Str.ofString "part") p, lcIter (lcS w) 0, [], 0⟩] (lcScope (lcS w)) (lcPos (lcS w)) := ⟨_, rfl⟩
noncomputable abbrev Sg (n : Int) : Str := Str.ofString (toString n)
/-- the source of one text's figures -/
noncomputable def ItS (w : World) (h₀ : Heap) (L aL : Addr) (cd : Value) (m : Str → Option Value) (C p : Addr) (oC : Obj) (led : List (Addr × Obj)) : Prop :=
  ∀ (s : Shared) (Q E : Value → Shared → Prop), Fr h₀ L s.heap m → News h₀ L s.heap ((C, oC) :: led) → (∀ h' tk', Fr h₀ L h' m → News h₀ L h' ((C, oC) :: led) → Q (.ref p) { s with heap := h', toks := tk' }) →
    wpAny (model PySem.Challenge.rw_pg0251_01.row.prog w) (lawA w L aL cd) (eval (lcIter (lcS w) 0) (cE3 w L aL cd C)) Q E s
set_option maxHeartbeats 8000000 in
/-- one paint's figures as texts -/
theorem textC (w : World) (mean mg mb) {h₀ : Heap} {L aL C p : Addr} {cd : Value} {m : Str → Option Value} {led : List (Addr × Obj)} {oC : Obj} {a b c : Int} {t1 t2 t3 : Tok} {s : Shared} {Q : Value → Shared → Prop} {E : Value → Shared → Prop}
    (B : Below callerA h₀ [] h₀) (X : (Mine.hd.heap_1 w.params).In h₀) (T : Top VW LO mean mg mb h₀) (F : Fr h₀ L s.heap m) (N : News h₀ L s.heap ((C, oC) :: led))
    (mp : (p, tup3 a b c t1 t2 t3) ∈ led) (i8 : In8 a b c) (hit : ItS w h₀ L aL cd m C p oC led)
    (hret : ∀ D u1 u2 u3 h' tk', Fr h₀ L h' m → News h₀ L h' ((D, ({ cls := .type "list", data := .seq #[.str (Sg a) u1, .str (Sg b) u2, .str (Sg c) u3] 3 } : Obj)) :: (C, oC) :: led) → (∀ p ∈ (C, oC) :: led, p.1 ≠ D) → Q (.ref D) { s with heap := h', toks := tk' }) :
    wpAny (model PySem.Challenge.rw_pg0251_01.row.prog w) (lawA w L aL cd) (eval (lcS w) (cE3 w L aL cd C)) Q E s := by
  obtain ⟨px, el⟩ := lcS_eq w
  rw [el]
  refine one_comp (env := cE3 w L aL cd C) (base := (C, oC) :: led) (cl := []) (m := m) (h₀ := h₀) (L := L) (closS w L aL cd C) (by rw [lcS_names]; decide) (by rfl) (by rw [lcS_names]; decide) (by rw [lcS_names]; decide) ?_ (by intro _; rfl)
  refine hit s _ _ F N fun h₁ tk₁ F₁ N₁ => ?_
  have mp' : (p, tup3 a b c t1 t2 t3) ∈ (C, oC) :: led := .tail _ mp
  have hl : h₁.IsTuple p #[.int a t1, .int b t2, .int c t3] := ⟨_, (N₁ _ mp').1, rfl, _, rfl⟩
  refine ⟨3, _, _, fun i y no => no = [] ∧ ∃ t, y = .str (Sg ([a, b, c].getD i 0)) t, Source.tuple (by rfl) hl, Nat.le_of_ble_eq_true rfl, fun x hx => by rw [List.mem_singleton.mp hx]; exact (N₁ _ mp').2.1, F₁, N₁, ?_, ?_⟩
  · intro i v hi hv C' oC' m₂ h tk led' E' hC hmv F N hb hbC
    have pick : ∃ n t, v = .int n t ∧ (0 ≤ n ∧ n ≤ 8) ∧ [a, b, c].getD i 0 = n := by
      rcases lt3 hi with rfl | rfl | rfl
      · exact ⟨a, t1, (Option.some.inj hv).symm, i8.1, rfl⟩
      · exact ⟨b, t2, (Option.some.inj hv).symm, i8.2.1, rfl⟩
      · exact ⟨c, t3, (Option.some.inj hv).symm, i8.2.2, rfl⟩
    obtain ⟨n, t, rfl, hn, e⟩ := pick
    exact eltS w mean mg mb h₀ L aL cd m m₂ C C' oC' n t led' hC hmv hn { s with heap := h, toks := tk } _ _ B X T F N fun t h' tk' F' N' => ⟨[], h', tk', rfl, F', N', (fun q hq => nomatch hq), rfl, t, by rw [e]⟩
  · intro D ys objs h' tk' F' N' off md
    obtain ⟨_, _, _, _, rfl, rfl, e2, rfl, u3, rfl⟩ := md.inv
    obtain ⟨_, _, _, _, rfl, rfl, e1, rfl, u2, rfl⟩ := e2.inv
    obtain ⟨_, _, _, _, rfl, rfl, e0, rfl, u1, rfl⟩ := e1.inv
    obtain ⟨rfl, rfl⟩ := e0.inv0
    simp only [List.append_nil] at N' off
    exact hret D u1 u2 u3 h' tk' F' N' off
end
section

noncomputable def Tx (a b c : Int) : Str := ⟨#[48 + a.toNat, 48 + b.toNat, 48 + c.toNat]⟩
theorem le8 {n : Int} (h : 0 ≤ n ∧ n ≤ 8) : n = 0 ∨ n = 1 ∨ n = 2 ∨ n = 3 ∨ n = 4 ∨ n = 5 ∨ n = 6 ∨ n = 7 ∨ n = 8 := by (first | lia | omega)
theorem sg_eq {n : Int} (h : 0 ≤ n ∧ n ≤ 8) : Sg n = ⟨#[48 + n.toNat]⟩ := by
  rcases le8 h with rfl | rfl | rfl | rfl | rfl | rfl | rfl | rfl | rfl <;> decide +kernel
theorem join3 (x y z : Nat) : Txt.join (Str.ofString "") [⟨#[x]⟩, ⟨#[y]⟩, ⟨#[z]⟩] = ⟨#[x, y, z]⟩ := by rfl
theorem joinT {prog : Program} {w : World} {A : Around} {E : Value → Shared → Prop} {s : Shared} {h₀ : Heap} {L D : Addr} {news : List (Addr × Obj)} {a b c : Int} {u1 u2 u3 t : Tok} {Q : Value → Shared → Prop} (N : News h₀ L s.heap news)
    (mD : (D, ({ cls := .type "list", data := .seq #[.str (Sg a) u1, .str (Sg b) u2, .str (Sg c) u3] 3 } : Obj)) ∈ news) (i8 : In8 a b c) (h : ∀ t' k, Q (.str (Tx a b c) t') { s with toks := k }) :
    wpAny (model prog w) A (call (.builtin "str.join") [.str (Str.ofString "") t, .ref D]) Q E s := by
  have e : Txt.join (Str.ofString "") [Sg a, Sg b, Sg c] = Tx a b c := by rw [sg_eq i8.1, sg_eq i8.2.1, sg_eq i8.2.2]; exact join3 _ _ _
  refine join_listW (ys := [Sg a, Sg b, Sg c]) (show s.heap.IsList D #[.str (Sg a) u1, .str (Sg b) u2, .str (Sg c) u3] from ⟨_, (N _ mD).1, rfl, _, rfl⟩) (.cons _ _ (.cons _ _ (.cons _ _ .nil))) (by decide +kernel) ?_ (by rw [e]; exact h)
  rw [sg_eq i8.1, sg_eq i8.2.1, sg_eq i8.2.2]
  exact Nat.le_of_ble_eq_true rfl

set_option maxRecDepth 100000 in
set_option maxHeartbeats 8000000 in
theorem elt3 (w : World) (mean mg mb) (h₀ : Heap) (L aL : Addr) (cd : Value) (m m₂ : Str → Option Value) (C p : Addr) (oC : Obj) (nm : Str) (tn : Tok) (a b c : Int) (t1 t2 t3 : Tok) (led : List (Addr × Obj))
   (hC : PyProof.Rows.LCg.NsObj oC m₂) (hn : m₂ "name" = some (.str nm tn)) (mp : (p, tup3 a b c t1 t2 t3) ∈ led) (i8 : In8 a b c) (hit : ItS w h₀ L aL cd m C p oC led) (s : Shared) (Q : Value → Shared → Prop) (E : Value → Shared → Prop)
   (B : Below callerA h₀ [] h₀) (X : (Mine.hd.heap_1 w.params).In h₀) (T : Top VW LO mean mg mb h₀) (F : Fr h₀ L s.heap m) (N : News h₀ L s.heap ((C, oC) :: led))
   (hret : ∀ T u1 u2 h' tk', Fr h₀ L h' m → News h₀ L h' ((T, ({ cls := .type "tuple", data := .seq #[.str nm u1, .str (Tx a b c) u2] 0 } : Obj)) :: (C, oC) :: led) → (∀ p ∈ (C, oC) :: led, p.1 ≠ T) → Q (.ref T) { s with heap := h', toks := tk' }) :
    wpAny (model PySem.Challenge.rw_pg0251_01.row.prog w) (lawA w L aL cd) (eval (lcElt (lc3 w)) (cE3 w L aL cd C)) Q E s := by
  w_on; revert X; k_fill; intro X
  k_dflt (show wpAny _ (callerA.deeper (envOfC _ (Scope.mk _ _ _ _ _) _ _ _)) (eval (.Tuple _ _ _) (compEnvC (Scope.mk _ _ _ _ _) _ _ (envOfC _ (Scope.mk _ _ _ _ _) _ _ _))) _ _ _)
  (try dsimp only); (try k_fold)
  repeat' (first | (k_here; (with_reducible show wpAny _ _ (eval (Expr.ListComp _ _ _ _) _) _ _ _); k_dflt (refine' textC w mean mg mb ?B ?X ?T ?F ?N ?mp ?i8 ?hit ?_; (case B => k_asm); (case X => k_asm); (case T => k_asm); (case F => k_asm); (case N => k_asm); (case mp => assumption); (case i8 => assumption); (case hit => assumption); intro D' u1' u2' u3' h' tk' F' N' l1'); (have n8' := NeAll.of (fun q hq => Ne.symm (l1' q hq))); (try simp only [NeAll, and_true] at n8'); (try walk_at "mine split"); (try k_sweep); (try dsimp only); (try k_fold)) | ((with_reducible show wpAny _ _ (call (Value.builtin "str.join") _ _) _ _ _); (k_here; (try dsimp only [List.cons_append, List.nil_append]); k_dflt (refine' joinT ?zqa ?zqb ?zqc ?_; (case zqa => k_asm); (case zqb => k_mem); (case zqc => assumption)); intro u' tk'; (try dsimp only); (try k_fold))) | ((with_reducible show wpAny _ _ (eval (Expr.Name _ _) _) _ _ _); (k_here; k_dflt (first | (refine' nameX_L ?zqk1 ?zqk2 ?_; (case zqk1 => k_asm); (case zqk2 => assumption)) | (refine' nameX_C ?zqN ?zqc ?zqm ?zqd ?_ ?zqa ?zqb; (case zqa => rfl); (case zqb => rfl); (case zqN => k_asm); (case zqc => rfl); (case zqm => k_mem); (case zqd => assumption); k_whole)))) | ((with_reducible show wpAny _ _ (exec (Stmt.For (Expr.Name _ _) (Expr.Name _ _) _ _ _) _) _ _ _); (k_here; (rename Fr _ _ _ _ => lF'); (with_unfolding_all refine' For_turns lF' ?_; k_whole))) | ((with_reducible show wpAny _ _ (call (Value.builtin "list.insert") _ _) _ _ _); ((with_reducible show wpAny _ _ (call _ (_ ++ _)) _ _ _); dsimp only [List.cons_append, List.nil_append])) | ((with_reducible show wpAny _ _ (subscriptTail _ _ (Value.ref _) _) _ _ _); (k_here; (with_reducible show wpAny _ _ (subscriptTail _ _ (Value.ref _) (Value.int _ _)) _ _ _); k_dflt (refine' sub_any ?zqk1 ?zqk2 ?zqkh ?zqk3 ?zqk4 ?zqk5 ?_; (case zqk1 => k_asm); (case zqk2 => k_mem); (case zqkh => first | exact .inr ⟨_, rfl⟩ | exact .inl ⟨_, rfl⟩); (case zqk3 => decide); (case zqk4 => decide); (case zqk5 => rfl)))) | (k_unfold; (try dsimp only)) | (k_end; wrow_close) | (walk1 <;> (try dsimp only) <;> (try walk_at "mine split")) | (dsimp only; walk1) | (leave1; walk_say "STEP leave1"; try dsimp only) | fail "no step")
  all_goals first
  | exact hret _ _ _ _ _ (by k_asm) (consN (by k_asm) (List.Mem.head _) (by first | exact sufN (by k_asm) [] rfl | exact sufN (by k_asm) [_] rfl | exact sufN (by k_asm) [_, _] rfl | exact sufN (by k_asm) [_, _, _] rfl | exact sufN (by k_asm) [_, _, _, _] rfl | exact sufN (by k_asm) [_, _, _, _, _] rfl | exact sufN (by k_asm) [_, _, _, _, _, _] rfl | exact sufN (by k_asm) [_, _, _, _, _, _, _] rfl | exact sufN (by k_asm) [_, _, _, _, _, _, _, _] rfl | exact sufN (by k_asm) [_, _, _, _, _, _, _, _, _] rfl | exact sufN (by k_asm) [_, _, _, _, _, _, _, _, _, _] rfl | exact sufN (by k_asm) [_, _, _, _, _, _, _, _, _, _, _] rfl | exact sufN (by k_asm) [_, _, _, _, _, _, _, _, _, _, _, _] rfl | exact sufN (by k_asm) [_, _, _, _, _, _, _, _, _, _, _, _, _] rfl | exact sufN (by k_asm) [_, _, _, _, _, _, _, _, _, _, _, _, _, _] rfl | exact sufN (by k_asm) [_, _, _, _, _, _, _, _, _, _, _, _, _, _, _] rfl)) (List.forall_mem_cons.mpr ⟨Nat.ne_of_lt (by assumption), neOfLt (by assumption)⟩)
  | skip
end
section

set_option maxRecDepth 100000 in
set_option maxHeartbeats 8000000 in
theorem it3n_0 (w : World) (mean mg mb) (h₀ : Heap) (L aL : Addr) (cd : Value) (m m₂ : Str → Option Value) (C : Addr) (oC : Obj) (tk : Tok) (led : List (Addr × Obj))
   (hC : PyProof.Rows.LCg.NsObj oC m₂) (hk : m₂ "k" = some (.int 0 tk)) (s : Shared) (Q : Value → Shared → Prop) (E : Value → Shared → Prop)
   (B : Below callerA h₀ [] h₀) (X : (Mine.hd.heap_1 w.params).In h₀) (T : Top VW LO mean mg mb h₀) (F : Fr h₀ L s.heap m) (N : News h₀ L s.heap ((C, oC) :: led))
   (hret : ∀ t h' tk', Fr h₀ L h' m → News h₀ L h' ((C, oC) :: led) → Q (.str (Str.ofString "abC") t) { s with heap := h', toks := tk' }) :
    wpAny (model PySem.Challenge.rw_pg0251_01.row.prog w) (lawA w L aL cd) (eval (lcIter (lc3 w) 1) (cE3 w L aL cd C)) Q E s := by
  w_on; revert X; k_fill; intro X
  k_dflt (show wpAny _ (callerA.deeper (envOfC _ (Scope.mk _ _ _ _ _) _ _ _)) (eval (.Subscript _ _ _) (compEnvC (Scope.mk _ _ _ _ _) _ _ (envOfC _ (Scope.mk _ _ _ _ _) _ _ _))) _ _ _)
  (try dsimp only); (try k_fold)
  repeat' (first | ((with_reducible show wpAny _ _ (eval (Expr.Name _ _) _) _ _ _); (k_here; k_dflt (first | (refine' nameX_L ?zqk1 ?zqk2 ?_; (case zqk1 => k_asm); (case zqk2 => assumption)) | (refine' nameX_C ?zqN ?zqc ?zqm ?zqd ?_ ?zqa ?zqb; (case zqa => rfl); (case zqb => rfl); (case zqN => k_asm); (case zqc => rfl); (case zqm => k_mem); (case zqd => assumption); k_whole)))) | ((with_reducible show wpAny _ _ (exec (Stmt.For (Expr.Name _ _) (Expr.Name _ _) _ _ _) _) _ _ _); (k_here; (rename Fr _ _ _ _ => lF'); (with_unfolding_all refine' For_turns lF' ?_; k_whole))) | ((with_reducible show wpAny _ _ (call (Value.builtin "list.insert") _ _) _ _ _); ((with_reducible show wpAny _ _ (call _ (_ ++ _)) _ _ _); dsimp only [List.cons_append, List.nil_append])) | ((with_reducible show wpAny _ _ (subscriptTail _ _ (Value.ref _) _) _ _ _); (k_here; (with_reducible show wpAny _ _ (subscriptTail _ _ (Value.ref _) (Value.int _ _)) _ _ _); k_dflt (refine' sub_any ?zqk1 ?zqk2 ?zqkh ?zqk3 ?zqk4 ?zqk5 ?_; (case zqk1 => k_asm); (case zqk2 => k_mem); (case zqkh => first | exact .inr ⟨_, rfl⟩ | exact .inl ⟨_, rfl⟩); (case zqk3 => decide); (case zqk4 => decide); (case zqk5 => rfl)))) | (k_unfold; (try dsimp only)) | (k_end; wrow_close) | (walk1 <;> (try dsimp only) <;> (try walk_at "mine split")) | (dsimp only; walk1) | (leave1; walk_say "STEP leave1"; try dsimp only) | fail "no step")
  all_goals first
  | exact hret _ _ _ (by k_asm) (by first | exact sufN (by k_asm) [] rfl | exact sufN (by k_asm) [_] rfl | exact sufN (by k_asm) [_, _] rfl | exact sufN (by k_asm) [_, _, _] rfl | exact sufN (by k_asm) [_, _, _, _] rfl | exact sufN (by k_asm) [_, _, _, _, _] rfl | exact sufN (by k_asm) [_, _, _, _, _, _] rfl | exact sufN (by k_asm) [_, _, _, _, _, _, _] rfl | exact sufN (by k_asm) [_, _, _, _, _, _, _, _] rfl | exact sufN (by k_asm) [_, _, _, _, _, _, _, _, _] rfl | exact sufN (by k_asm) [_, _, _, _, _, _, _, _, _, _] rfl | exact sufN (by k_asm) [_, _, _, _, _, _, _, _, _, _, _] rfl | exact sufN (by k_asm) [_, _, _, _, _, _, _, _, _, _, _, _] rfl | exact sufN (by k_asm) [_, _, _, _, _, _, _, _, _, _, _, _, _] rfl | exact sufN (by k_asm) [_, _, _, _, _, _, _, _, _, _, _, _, _, _] rfl | exact sufN (by k_asm) [_, _, _, _, _, _, _, _, _, _, _, _, _, _, _] rfl)
  | skip

set_option maxRecDepth 100000 in
set_option maxHeartbeats 8000000 in
theorem it3n_1 (w : World) (mean mg mb) (h₀ : Heap) (L aL : Addr) (cd : Value) (m m₂ : Str → Option Value) (C : Addr) (oC : Obj) (tk : Tok) (led : List (Addr × Obj))
   (hC : PyProof.Rows.LCg.NsObj oC m₂) (hk : m₂ "k" = some (.int 1 tk)) (s : Shared) (Q : Value → Shared → Prop) (E : Value → Shared → Prop)
   (B : Below callerA h₀ [] h₀) (X : (Mine.hd.heap_1 w.params).In h₀) (T : Top VW LO mean mg mb h₀) (F : Fr h₀ L s.heap m) (N : News h₀ L s.heap ((C, oC) :: led))
   (hret : ∀ t h' tk', Fr h₀ L h' m → News h₀ L h' ((C, oC) :: led) → Q (.str (Str.ofString "aBc") t) { s with heap := h', toks := tk' }) :
    wpAny (model PySem.Challenge.rw_pg0251_01.row.prog w) (lawA w L aL cd) (eval (lcIter (lc3 w) 1) (cE3 w L aL cd C)) Q E s := by
  w_on; revert X; k_fill; intro X
  k_dflt (show wpAny _ (callerA.deeper (envOfC _ (Scope.mk _ _ _ _ _) _ _ _)) (eval (.Subscript _ _ _) (compEnvC (Scope.mk _ _ _ _ _) _ _ (envOfC _ (Scope.mk _ _ _ _ _) _ _ _))) _ _ _)
  (try dsimp only); (try k_fold)
  repeat' (first | ((with_reducible show wpAny _ _ (eval (Expr.Name _ _) _) _ _ _); (k_here; k_dflt (first | (refine' nameX_L ?zqk1 ?zqk2 ?_; (case zqk1 => k_asm); (case zqk2 => assumption)) | (refine' nameX_C ?zqN ?zqc ?zqm ?zqd ?_ ?zqa ?zqb; (case zqa => rfl); (case zqb => rfl); (case zqN => k_asm); (case zqc => rfl); (case zqm => k_mem); (case zqd => assumption); k_whole)))) | ((with_reducible show wpAny _ _ (exec (Stmt.For (Expr.Name _ _) (Expr.Name _ _) _ _ _) _) _ _ _); (k_here; (rename Fr _ _ _ _ => lF'); (with_unfolding_all refine' For_turns lF' ?_; k_whole))) | ((with_reducible show wpAny _ _ (call (Value.builtin "list.insert") _ _) _ _ _); ((with_reducible show wpAny _ _ (call _ (_ ++ _)) _ _ _); dsimp only [List.cons_append, List.nil_append])) | ((with_reducible show wpAny _ _ (subscriptTail _ _ (Value.ref _) _) _ _ _); (k_here; (with_reducible show wpAny _ _ (subscriptTail _ _ (Value.ref _) (Value.int _ _)) _ _ _); k_dflt (refine' sub_any ?zqk1 ?zqk2 ?zqkh ?zqk3 ?zqk4 ?zqk5 ?_; (case zqk1 => k_asm); (case zqk2 => k_mem); (case zqkh => first | exact .inr ⟨_, rfl⟩ | exact .inl ⟨_, rfl⟩); (case zqk3 => decide); (case zqk4 => decide); (case zqk5 => rfl)))) | (k_unfold; (try dsimp only)) | (k_end; wrow_close) | (walk1 <;> (try dsimp only) <;> (try walk_at "mine split")) | (dsimp only; walk1) | (leave1; walk_say "STEP leave1"; try dsimp only) | fail "no step")
  all_goals first
  | exact hret _ _ _ (by k_asm) (by first | exact sufN (by k_asm) [] rfl | exact sufN (by k_asm) [_] rfl | exact sufN (by k_asm) [_, _] rfl | exact sufN (by k_asm) [_, _, _] rfl | exact sufN (by k_asm) [_, _, _, _] rfl | exact sufN (by k_asm) [_, _, _, _, _] rfl | exact sufN (by k_asm) [_, _, _, _, _, _] rfl | exact sufN (by k_asm) [_, _, _, _, _, _, _] rfl | exact sufN (by k_asm) [_, _, _, _, _, _, _, _] rfl | exact sufN (by k_asm) [_, _, _, _, _, _, _, _, _] rfl | exact sufN (by k_asm) [_, _, _, _, _, _, _, _, _, _] rfl | exact sufN (by k_asm) [_, _, _, _, _, _, _, _, _, _, _] rfl | exact sufN (by k_asm) [_, _, _, _, _, _, _, _, _, _, _, _] rfl | exact sufN (by k_asm) [_, _, _, _, _, _, _, _, _, _, _, _, _] rfl | exact sufN (by k_asm) [_, _, _, _, _, _, _, _, _, _, _, _, _, _] rfl | exact sufN (by k_asm) [_, _, _, _, _, _, _, _, _, _, _, _, _, _, _] rfl)
  | skip

set_option maxRecDepth 100000 in
set_option maxHeartbeats 8000000 in
theorem it3n_2 (w : World) (mean mg mb) (h₀ : Heap) (L aL : Addr) (cd : Value) (m m₂ : Str → Option Value) (C : Addr) (oC : Obj) (tk : Tok) (led : List (Addr × Obj))
   (hC : PyProof.Rows.LCg.NsObj oC m₂) (hk : m₂ "k" = some (.int 2 tk)) (s : Shared) (Q : Value → Shared → Prop) (E : Value → Shared → Prop)
   (B : Below callerA h₀ [] h₀) (X : (Mine.hd.heap_1 w.params).In h₀) (T : Top VW LO mean mg mb h₀) (F : Fr h₀ L s.heap m) (N : News h₀ L s.heap ((C, oC) :: led))
   (hret : ∀ t h' tk', Fr h₀ L h' m → News h₀ L h' ((C, oC) :: led) → Q (.str (Str.ofString "ABC") t) { s with heap := h', toks := tk' }) :
    wpAny (model PySem.Challenge.rw_pg0251_01.row.prog w) (lawA w L aL cd) (eval (lcIter (lc3 w) 1) (cE3 w L aL cd C)) Q E s := by
  w_on; revert X; k_fill; intro X
  k_dflt (show wpAny _ (callerA.deeper (envOfC _ (Scope.mk _ _ _ _ _) _ _ _)) (eval (.Subscript _ _ _) (compEnvC (Scope.mk _ _ _ _ _) _ _ (envOfC _ (Scope.mk _ _ _ _ _) _ _ _))) _ _ _)
  (try dsimp only); (try k_fold)
  repeat' (first | ((with_reducible show wpAny _ _ (eval (Expr.Name _ _) _) _ _ _); (k_here; k_dflt (first | (refine' nameX_L ?zqk1 ?zqk2 ?_; (case zqk1 => k_asm); (case zqk2 => assumption)) | (refine' nameX_C ?zqN ?zqc ?zqm ?zqd ?_ ?zqa ?zqb; (case zqa => rfl); (case zqb => rfl); (case zqN => k_asm); (case zqc => rfl); (case zqm => k_mem); (case zqd => assumption); k_whole)))) | ((with_reducible show wpAny _ _ (exec (Stmt.For (Expr.Name _ _) (Expr.Name _ _) _ _ _) _) _ _ _); (k_here; (rename Fr _ _ _ _ => lF'); (with_unfolding_all refine' For_turns lF' ?_; k_whole))) | ((with_reducible show wpAny _ _ (call (Value.builtin "list.insert") _ _) _ _ _); ((with_reducible show wpAny _ _ (call _ (_ ++ _)) _ _ _); dsimp only [List.cons_append, List.nil_append])) | ((with_reducible show wpAny _ _ (subscriptTail _ _ (Value.ref _) _) _ _ _); (k_here; (with_reducible show wpAny _ _ (subscriptTail _ _ (Value.ref _) (Value.int _ _)) _ _ _); k_dflt (refine' sub_any ?zqk1 ?zqk2 ?zqkh ?zqk3 ?zqk4 ?zqk5 ?_; (case zqk1 => k_asm); (case zqk2 => k_mem); (case zqkh => first | exact .inr ⟨_, rfl⟩ | exact .inl ⟨_, rfl⟩); (case zqk3 => decide); (case zqk4 => decide); (case zqk5 => rfl)))) | (k_unfold; (try dsimp only)) | (k_end; wrow_close) | (walk1 <;> (try dsimp only) <;> (try walk_at "mine split")) | (dsimp only; walk1) | (leave1; walk_say "STEP leave1"; try dsimp only) | fail "no step")
  all_goals first
  | exact hret _ _ _ (by k_asm) (by first | exact sufN (by k_asm) [] rfl | exact sufN (by k_asm) [_] rfl | exact sufN (by k_asm) [_, _] rfl | exact sufN (by k_asm) [_, _, _] rfl | exact sufN (by k_asm) [_, _, _, _] rfl | exact sufN (by k_asm) [_, _, _, _, _] rfl | exact sufN (by k_asm) [_, _, _, _, _, _] rfl | exact sufN (by k_asm) [_, _, _, _, _, _, _] rfl | exact sufN (by k_asm) [_, _, _, _, _, _, _, _] rfl | exact sufN (by k_asm) [_, _, _, _, _, _, _, _, _] rfl | exact sufN (by k_asm) [_, _, _, _, _, _, _, _, _, _] rfl | exact sufN (by k_asm) [_, _, _, _, _, _, _, _, _, _, _] rfl | exact sufN (by k_asm) [_, _, _, _, _, _, _, _, _, _, _, _] rfl | exact sufN (by k_asm) [_, _, _, _, _, _, _, _, _, _, _, _, _] rfl | exact sufN (by k_asm) [_, _, _, _, _, _, _, _, _, _, _, _, _, _] rfl | exact sufN (by k_asm) [_, _, _, _, _, _, _, _, _, _, _, _, _, _, _] rfl)
  | skip

set_option maxRecDepth 100000 in
set_option maxHeartbeats 8000000 in
theorem it3k (w : World) (mean mg mb) (h₀ : Heap) (L aL : Addr) (cd : Value) (m : Str → Option Value)  (led : List (Addr × Obj))
    (s : Shared) (Q : Value → Shared → Prop) (E : Value → Shared → Prop)
   (B : Below callerA h₀ [] h₀) (X : (Mine.hd.heap_1 w.params).In h₀) (T : Top VW LO mean mg mb h₀) (F : Fr h₀ L s.heap m) (N : News h₀ L s.heap led)
   (hret : ∀ r t u v h' tk', IsRange h' r 0 3 1 t u v → Fr h₀ L h' m → News h₀ L h' led → Q (.ref r) { s with heap := h', toks := tk' }) :
    wpAny (model PySem.Challenge.rw_pg0251_01.row.prog w) (lawA w L aL cd) (eval (lcIter (lc3 w) 0) (lawE w L aL cd)) Q E s := by
  w_on; revert X; k_fill; intro X
  k_dflt (show wpAny _ (callerA.deeper (envOfC _ (Scope.mk _ _ _ _ _) _ _ _)) (eval (.Call _ _ _ _) (envOfC _ (Scope.mk _ _ _ _ _) _ _ _)) _ _ _)
  (try dsimp only); (try k_fold)
  repeat' (first | ((with_reducible show wpAny _ _ (eval (Expr.Name _ _) _) _ _ _); (k_here; k_dflt (first | (refine' nameX_L ?zqk1 ?zqk2 ?_; (case zqk1 => k_asm); (case zqk2 => assumption)) | (refine' nameX_C ?zqN ?zqc ?zqm ?zqd ?_ ?zqa ?zqb; (case zqa => rfl); (case zqb => rfl); (case zqN => k_asm); (case zqc => rfl); (case zqm => k_mem); (case zqd => assumption); k_whole)))) | ((with_reducible show wpAny _ _ (exec (Stmt.For (Expr.Name _ _) (Expr.Name _ _) _ _ _) _) _ _ _); (k_here; (rename Fr _ _ _ _ => lF'); (with_unfolding_all refine' For_turns lF' ?_; k_whole))) | ((with_reducible show wpAny _ _ (call (Value.builtin "list.insert") _ _) _ _ _); ((with_reducible show wpAny _ _ (call _ (_ ++ _)) _ _ _); dsimp only [List.cons_append, List.nil_append])) | ((with_reducible show wpAny _ _ (subscriptTail _ _ (Value.ref _) _) _ _ _); (k_here; (with_reducible show wpAny _ _ (subscriptTail _ _ (Value.ref _) (Value.int _ _)) _ _ _); k_dflt (refine' sub_any ?zqk1 ?zqk2 ?zqkh ?zqk3 ?zqk4 ?zqk5 ?_; (case zqk1 => k_asm); (case zqk2 => k_mem); (case zqkh => first | exact .inr ⟨_, rfl⟩ | exact .inl ⟨_, rfl⟩); (case zqk3 => decide); (case zqk4 => decide); (case zqk5 => rfl)))) | (k_unfold; (try dsimp only)) | (k_end; wrow_close) | (walk1 <;> (try dsimp only) <;> (try walk_at "mine split")) | (dsimp only; walk1) | (leave1; walk_say "STEP leave1"; try dsimp only) | fail "no step")
  all_goals first
  | exact hret _ _ _ _ _ _ (by assumption) (by k_asm) (by k_asm)
  | skip
end
section
open PyProof.Rows.LCg
theorem Source.ascii {prog : Program} {w : World} {A : Around} {h : Heap} {x : Str} {t : Tok} (hh : A.handled = none) (ha : x.cps.all (· < 128) = true) : Source prog w A (.str x t) h x.cps.size (SignAt x) [] := by
  refine ⟨(fun a ha => nomatch ha), fun s Q E hs k => ?_⟩
  subst hs
  exact wpAny_pyIter_ascii ha (k _ _ (Walks.strAscii hh _ x t) (fun i h' st => by obtain ⟨o, e, _⟩ := st; exact ⟨o, e⟩) ⟨_, Heap.get?_push_size _ rfl, rfl, rfl⟩)
/-- one turn of a comprehension of two clauses: its element -/
noncomputable def EltTurn2 (prog : Program) (w : World) (A : Around) (h₀ : Heap) (L : Addr) (m : Str → Option Value) (base : List (Addr × Obj)) (elt : Expr) (x1 x2 : Str) (scope : Scope) (cl : List (Str × Addr)) (env : Env) (s : Shared) (P : Value → List (Addr × Obj) → Prop) (v1 v2 : Value) : Prop :=
  ∀ C oC m₂ h tk led (E' : Value → Shared → Prop), NsObj oC m₂ → m₂ x1 = some v1 → m₂ x2 = some v2 → Fr h₀ L h m → News h₀ L h ((C, oC) :: led) → (∀ p ∈ base, p ∈ led) →
    wpAny (model prog w) A (eval elt (compEnvC scope cl C env)) (fun y s' => ∃ no h' tk', s' = { s with heap := h', toks := tk' } ∧ Fr h₀ L h' m ∧ News h₀ L h' (no ++ (C, oC) :: led) ∧ (∀ q ∈ no, ∀ p ∈ (C, oC) :: led, p.1 ≠ q.1) ∧ P y no) E' { s with heap := h, toks := tk }
theorem GInv.add {h₀ h : Heap} {L I : Addr} {m : Str → Option Value} {base objs : List (Addr × Obj)} {X : List Addr} (c : GInv h₀ L m base X objs h) (hI : h.get? I = none) : GInv h₀ L m base (I :: X) objs h := by
  obtain ⟨F, N, off⟩ := c
  refine ⟨F, N, fun p hp q => ?_⟩
  rcases List.mem_cons.mp q with q | q
  · have := (N p hp).1; rw [q, hI] at this; cases this
  · exact off p hp q
theorem GInv.drop {h₀ h : Heap} {L : Addr} {m : Str → Option Value} {base objs : List (Addr × Obj)} {X X' : List Addr} (c : GInv h₀ L m base X objs h) (hs : ∀ a ∈ X', a ∈ X) : GInv h₀ L m base X' objs h := ⟨c.1, c.2.1, fun p hp q => c.2.2 p hp (hs _ q)⟩
theorem GInv.re {h₀ h h' : Heap} {L : Addr} {m : Str → Option Value} {base objs : List (Addr × Obj)} {X : List Addr} (c : GInv h₀ L m base X objs h) (F' : Fr h₀ L h' m) (hk : ∀ b o, b ≠ L → h.get? b = some o → h'.get? b = some o) : GInv h₀ L m base X objs h' :=
  ⟨F', fun p hp => ⟨hk _ _ (c.2.1 p hp).2.1 (c.2.1 p hp).1, (c.2.1 p hp).2⟩, c.2.2⟩
theorem GInv.up {h₀ h h' : Heap} {L : Addr} {m : Str → Option Value} {base objs : List (Addr × Obj)} {X : List Addr} (c : GInv h₀ L m base X objs h) (hk : ∀ b o, h.get? b = some o → h'.get? b = some o) : GInv h₀ L m base X objs h' :=
  ⟨c.1.keeps hk, fun p hp => ⟨hk _ _ (c.2.1 p hp).1, (c.2.1 p hp).2⟩, c.2.2⟩
section
variable {prog : Program} {w : World} {A : Around} {s : Shared} {R : Result → Shared → Prop} {env : Env} {elt iter : Expr} {gens : List Comprehension} {d : Nat} {x1 x : Str} {px : Pos} {scope : Scope} {cl : List (Str × Addr)} {pos : Pos} {h₀ : Heap} {L : Addr} {m : Str → Option Value}
/-- the inner clause's loop -/
theorem inner_loop {X : List Addr} {base : List (Addr × Obj)} {C D I : Addr} {n n0 : Nat} {P0 : Nat → Value → Prop} {St : Nat → Heap → Prop} {P : Nat → Value → List (Addr × Obj) → Prop} {m₂ : Str → Option Value} {ys : List Value} {v1 : Value} (hg : gens[d]? = some ⟨.Name x px, iter, [], 0⟩) (hl : gens[d + 1]? = none) (hsz : n0 + n ≤ sizeLine)
    (W : Walks prog w A I [I] [I] n P0 St) (hlive : ∀ i h', St i h' → ∃ o, h'.get? I = some o) (hst : St 0 s.heap)
    (hkind : scope.kind = .function) (hx : scope.names.lookup x = some .local) (hne : x1 ≠ x)
    (hIX : I ∈ X) (hCX : C ∈ X) (hDX : D ∈ X) (hLX : L ∉ X) (hX : ∀ a ∈ X, h₀.get? a = none) (hXl : ∀ a ∈ X, ∃ o, s.heap.get? a = some o) (hIC : I ≠ C) (hID : I ≠ D) (hCD : C ≠ D)
    (hn : s.heap.Ns C m₂) (hm1 : m₂ x1 = some v1) (hD : s.heap.get? D = some (lst ys)) (h0 : ∃ objs, GInv h₀ L m base X objs s.heap ∧ Made P n0 ys objs)
    (turn : ∀ i v, i < n → P0 i v → EltTurn2 prog w A h₀ L m base elt x1 x scope cl env s (P (n0 + i)) v1 v)
    (done : ∀ h' tk' m' ys, h'.Ns C m' → h'.get? D = some (lst ys) → (∃ objs, GInv h₀ L m base X objs h' ∧ Made P (n0 + n) ys objs) → (∀ b o, b ≠ C → b ≠ D → b ≠ L → b ≠ I → s.heap.get? b = some o → h'.get? b = some o) → R (.ok .next) { s with heap := h', toks := tk' }) :
    codeAny (model prog w) A (.compLoop (.ListComp elt gens scope pos) d (.ref I) (.ref D) (compEnvC scope cl C env)) R s := by
  have hIL : I ≠ L := fun e => hLX (e ▸ hIX)
  have hCL : C ≠ L := fun e => hLX (e ▸ hCX)
  have hDL : D ≠ L := fun e => hLX (e ▸ hDX)
  refine kn_last hg hl W (lookup_relabel_local hx) (by simp [compEnvC, relabel, hkind]) (Ne.symm hCD) ?hDf ?hCf (Lx := L) ?hLf (Ne.symm hCL) (Ne.symm hDL)
    (fun i m₃ ys h => (∃ objs, GInv h₀ L m base X objs h ∧ Made P (n0 + i) ys objs) ∧ m₃ x1 = some v1) ?hfr ?hlen ?step hst hn hD ⟨h0, hm1⟩ ?done
  case hDf => intro e; exact hID (List.mem_singleton.mp e).symm
  case hCf => intro e; exact hIC (List.mem_singleton.mp e).symm
  case hLf => intro e; exact hIL (List.mem_singleton.mp e).symm
  case hfr =>
    rintro i m₃ ys h h' ⟨⟨objs, c, md⟩, e1⟩ hk
    exact ⟨⟨objs, c.keep hLX hX fun b o hb e => hk b o (fun q => hb (q ▸ hCX)) (fun q => hb (q ▸ hDX)) (fun q => hb ((List.mem_singleton.mp q) ▸ hIX)) e, md⟩, e1⟩
  case hlen =>
    rintro i m₃ ys h ⟨⟨objs, _, md⟩, _⟩ hi
    rw [md.len]; omega
  case done =>
    rintro h' tk' m₃ ys hn' hD' ⟨c, _⟩ hk
    exact done h' tk' m₃ ys hn' hD' c fun b o h1 h2 h3 h4 e => hk b o h1 h2 h3 (by simpa using h4) e
  case step =>
    rintro i v h' tk' m₃ ys E' hi hv hn' hD' hst ⟨⟨objs, c, md⟩, e1⟩ hk
    obtain ⟨oC, heC, hoC⟩ := ns_obj hn'
    have f1 : (fun z => if z = x then some v else m₃ z) x1 = some v1 := (if_neg hne).trans e1
    have live : ∀ a ∈ X, ∃ o, h'.get? a = some o := fun a ha => by
      obtain ⟨o, e⟩ := hXl a ha
      by_cases a1 : a = C
      · exact ⟨oC, a1 ▸ heC⟩
      by_cases a2 : a = D
      · exact ⟨_, a2 ▸ hD'⟩
      by_cases a3 : a = I
      · rw [a3]; exact hlive _ _ hst
      · exact ⟨o, hk a o a1 a2 (fun q => hLX (q ▸ ha)) (by simpa using a3) e⟩
    refine wpAny_tests_nil ⟨h', tk', rfl, fun _ _ _ e => e, ?_⟩
    rw [if_pos rfl]
    have bs := every_of c.2.1
    refine wpAny_mono (turn i v hi hv C oC _ h' tk' (every h₀ h' L) _ hoC f1 (by simp) c.1 (fun p hp => ?_) (fun p hp => bs p (List.mem_append_left _ hp))) (fun y s₄ h₄ => ?_) fun _ _ e => e
    · rcases List.mem_cons.mp hp with rfl | hp
      · exact ⟨heC, hCL, hX _ hCX⟩
      · exact every_news p hp
    · obtain ⟨no, h₄, tk₄, rfl, F₄, N₄, ne, hP⟩ := h₄
      have K := every_kept c.1 F₄ N₄ fun p hp => List.mem_append_right _ (.tail _ hp)
      refine ⟨h₄, tk₄, rfl, K, ⟨objs ++ no, ⟨F₄, fun p hp => ?_, fun p hp ha => ?_⟩, md.snoc hP⟩, f1⟩
      · rw [← List.append_assoc] at hp
        rcases List.mem_append.mp hp with hp | hp
        · exact ⟨K _ _ (c.2.1 p hp).2.1 (c.2.1 p hp).1, (c.2.1 p hp).2⟩
        · exact N₄ p (List.mem_append_left _ hp)
      · rw [← List.append_assoc] at hp
        rcases List.mem_append.mp hp with hp | hp
        · exact c.2.2 p hp ha
        · obtain ⟨o, e⟩ := live _ ha
          exact ne p hp (p.1, o) (.tail _ (every_mem e (hX _ ha) fun q => hLX (q ▸ ha))) rfl
end
end
section
open PyProof.Rows.LCg
noncomputable def nm3 (i : Nat) : Str := match i with | 0 => Str.ofString "abC" | 1 => Str.ofString "aBc" | _ => Str.ofString "ABC"
noncomputable abbrev LC3 (w : World) : Expr := .ListComp (lcElt (lc3 w)) (lcGens (lc3 w)) (lcScope (lc3 w)) (lcPos (lc3 w))
theorem lc3_eq (w : World) : lc3 w = LC3 w := rfl
theorem lc3_g0 (w : World) : ∃ p, (lcGens (lc3 w))[0]? = some ⟨.Name (Str.ofString "k") p, lcIter (lc3 w) 0, [], 0⟩ := ⟨_, rfl⟩
theorem lc3_g1 (w : World) : ∃ p, (lcGens (lc3 w))[1]? = some ⟨.Name (Str.ofString "name") p, lcIter (lc3 w) 1, [], 0⟩ := ⟨_, rfl⟩
theorem lc3_g2 (w : World) : (lcGens (lc3 w))[2]? = none := rfl
theorem lc3_cons (w : World) : ∃ p gs, lcGens (lc3 w) = ⟨.Name (Str.ofString "k") p, lcIter (lc3 w) 0, [], 0⟩ :: gs := ⟨_, _, rfl⟩
set_option maxHeartbeats 8000000 in
/-- the table's comprehension -/
theorem comp3t (w : World) (mean mg mb) {h₀ : Heap} {L aL : Addr} {cd : Value} {m : Str → Option Value} {base : List (Addr × Obj)} {P : Nat → Value → List (Addr × Obj) → Prop} {s : Shared} {Q : Value → Shared → Prop} {E : Value → Shared → Prop}
    (B : Below callerA h₀ [] h₀) (XF : (Mine.hd.heap_1 w.params).In h₀) (T : Top VW LO mean mg mb h₀) (F : Fr h₀ L s.heap m) (N : News h₀ L s.heap base)
    (turn : ∀ (i j : Nat) (t : Tok) (v : Value), i < 3 → j < 3 → SignAt (nm3 i) j v → EltTurn2 PySem.Challenge.rw_pg0251_01.row.prog w (lawA w L aL cd) h₀ L m base (lcElt (lc3 w)) (Str.ofString "k") (Str.ofString "name") (lcScope (lc3 w)) (clo3 L) (lawE w L aL cd) s (P (3 * i + j)) (.int (i : Int) t) v)
    (hret : ∀ D ys objs h' tk', Fr h₀ L h' m → News h₀ L h' ((D, lst ys) :: (base ++ objs)) → (∀ p ∈ base ++ objs, p.1 ≠ D) → Made P 9 ys objs → Q (.ref D) { s with heap := h', toks := tk' }) :
    wpAny (model PySem.Challenge.rw_pg0251_01.row.prog w) (lawA w L aL cd) (eval (lc3 w) (lawE w L aL cd)) Q E s := by
  obtain ⟨p0, gs, eg⟩ := lc3_cons w
  obtain ⟨pp, hg⟩ := lc3_g0 w
  obtain ⟨pp', hg1⟩ := lc3_g1 w
  rw [lc3_eq, LC3, eg]
  refine kn_top (cl := clo3 L) (clos3 w L aL cd) (by rw [lc3_names]; decide) (by rfl) (by rw [lc3_names]; decide) ?_ (by intro _; rfl)
  refine it3k w mean mg mb h₀ L aL cd m base s _ _ B XF T F N fun r t u v h₁ tk₁ hr F₁ N₁ => ?_
  obtain ⟨_, src⟩ := Source.range (prog := PySem.Challenge.rw_pg0251_01.row.prog) (w := w) (A := lawA w L aL cd) (n := 3) (by rfl) hr (by decide) (by decide)
  refine src { s with heap := h₁, toks := tk₁ } _ _ rfl fun o St W hlive st0 => ?_
  intro h tk C D hDe hCe up hn hD
  have sz2 : (h₁.push o).objs.size = h₁.objs.size + 1 := Heap.size_push ..
  dsimp only at hDe hCe up
  rw [sz2] at hDe hCe
  have hID : h₁.objs.size ≠ D := hDe ▸ Nat.ne_of_lt (Nat.lt_succ_self _)
  have hIC : h₁.objs.size ≠ C := hCe ▸ Nat.ne_of_lt (Nat.lt_succ_of_lt (Nat.lt_succ_self _))
  have hCD : C ≠ D := by rw [hCe, hDe]; exact Nat.ne_of_gt (Nat.lt_succ_self _)
  have lt1 : ∀ b o, h₁.get? b = some o → b ≠ h₁.objs.size ∧ b ≠ D ∧ b ≠ C := fun b o e => by
    have h1 := Heap.lt_size e
    exact ⟨Nat.ne_of_lt h1, hDe ▸ Nat.ne_of_lt (Nat.lt_succ_of_lt h1), hCe ▸ Nat.ne_of_lt (Nat.lt_succ_of_lt (Nat.lt_succ_of_lt h1))⟩
  have n1 : ∀ a, h₁.objs.size ≤ a → h₁.get? a = none := fun a ha => by
    cases e : h₁.get? a with
    | none => rfl
    | some o => exact absurd (Heap.lt_size e) (Nat.not_lt.mpr ha)
  have up1 : ∀ b o, h₁.get? b = some o → h.get? b = some o := fun b o e => up _ _ (Heap.get?_push_of_some _ e)
  have hLX : L ∉ [h₁.objs.size, C, D] := by
    obtain ⟨o, _, _, e, _⟩ := id F₁.ns
    have := lt1 _ _ e
    intro ha
    rcases List.mem_cons.mp ha with ha | ha
    · exact this.1 ha
    rcases List.mem_cons.mp ha with ha | ha
    · exact this.2.2 ha
    · exact this.2.1 (List.mem_singleton.mp ha)
  have hX : ∀ a ∈ [h₁.objs.size, C, D], h₀.get? a = none := fun a ha => new_none F₁ (n1 a (by
    rcases List.mem_cons.mp ha with rfl | ha
    · exact Nat.le_refl _
    rcases List.mem_cons.mp ha with rfl | ha
    · rw [hCe]; exact Nat.le_succ_of_le (Nat.le_succ _)
    · rw [List.mem_singleton.mp ha, hDe]; exact Nat.le_succ _))
  have st1 : St 0 h := W.frame _ _ _ st0 fun b _ o e => up b o e
  have c0 : GInv h₀ L m base [h₁.objs.size, C, D] [] h := by
    refine ⟨F₁.keeps up1, fun p hp => ?_, fun p hp ha => ?_⟩
    · rw [List.append_nil] at hp; exact ⟨up1 _ _ (N₁ p hp).1, (N₁ p hp).2⟩
    · rw [List.append_nil] at hp
      have := lt1 _ _ (N₁ p hp).1
      rcases List.mem_cons.mp ha with ha | ha
      · exact this.1 ha
      rcases List.mem_cons.mp ha with ha | ha
      · exact this.2.2 ha
      · exact this.2.1 (List.mem_singleton.mp ha)
  generalize hX0 : [h₁.objs.size, C, D] = X at hLX hX c0
  have hIX : h₁.objs.size ∈ X := hX0 ▸ .head _
  have hCX : C ∈ X := hX0 ▸ .tail _ (.head _)
  have hDX : D ∈ X := hX0 ▸ .tail _ (.tail _ (.head _))
  have hX3 : ∀ a ∈ X, a = h₁.objs.size ∨ a = C ∨ a = D := fun a ha => by
    rw [← hX0] at ha
    rcases List.mem_cons.mp ha with ha | ha
    · exact .inl ha
    rcases List.mem_cons.mp ha with ha | ha
    · exact .inr (.inl ha)
    · exact .inr (.inr (List.mem_singleton.mp ha))
  have hIL : h₁.objs.size ≠ L := fun e => hLX (e ▸ hIX)
  have hCL : C ≠ L := fun e => hLX (e ▸ hCX)
  have hDL : D ≠ L := fun e => hLX (e ▸ hDX)
  rw [← eg]
  have loop : ∀ tk, codeAny (model PySem.Challenge.rw_pg0251_01.row.prog w) (lawA w L aL cd) (.compLoop (LC3 w) 0 (.ref h₁.objs.size) (.ref D) (cE3 w L aL cd C))
      (fun r s' => ∃ f m', r = .ok f ∧ s'.heap.Ns C m' ∧ ∀ h', Heap.SameBut C s'.heap h' → Q (.ref D) { s' with heap := h' }) { s with heap := h, toks := tk } := fun tk => by
    refine kn_mid (n := 3) (s := { s with heap := h, toks := tk }) hg hg1 W (by rfl) (by rfl) (Ne.symm hCD) ?hDf ?hCf (Lx := L) ?hLf (Ne.symm hCL) (Ne.symm hDL)
      (fun i m₃ ys h => ∃ objs, GInv h₀ L m base X objs h ∧ Made P (3 * i) ys objs) ?hfr ?step st1 hn hD ⟨[], c0, .nil⟩ ?done (by intro _; rfl)
    case hDf => intro e; exact hID (List.mem_singleton.mp e).symm
    case hCf => intro e; exact hIC (List.mem_singleton.mp e).symm
    case hLf => intro e; exact hIL (List.mem_singleton.mp e).symm
    case hfr =>
      rintro i m₃ ys h h' ⟨objs, c, md⟩ hk
      exact ⟨objs, c.keep hLX hX fun b o hb e => hk b o (fun q => hb (q ▸ hCX)) (fun q => hb (q ▸ hDX)) (fun q => hb ((List.mem_singleton.mp q) ▸ hIX)) e, md⟩
    case done =>
      rintro h tk m₃ ys' hn' hD' ⟨objs, c, md⟩ hk
      refine ⟨_, m₃, rfl, hn', fun h' hs' => ?_⟩
      have c' := c.keep hLX hX fun b o hb e => hs'.extBut b o (fun q => hb (q ▸ hCX)) e
      refine hret D ys' objs h' tk c'.1 (fun p hp => ?_) (fun p hp q => c'.2.2 p hp (q ▸ hDX)) md
      rcases List.mem_cons.mp hp with rfl | hp
      · exact ⟨hs'.extBut _ _ (Ne.symm hCD) hD', hDL, hX _ hDX⟩
      · exact c'.2.1 p hp
    case step =>
      rintro i v h' tk m₃ ys' E' hi ⟨ti, hv⟩ hn' hD' hst ⟨objs, c, md⟩ hk
      obtain ⟨oC, heC, hoC⟩ := ns_obj hn'
      have live : ∀ a ∈ X, ∃ o, h'.get? a = some o := fun a ha => by
        rcases hX3 a ha with rfl | rfl | rfl
        · exact hlive _ _ hst
        · exact ⟨_, heC⟩
        · exact ⟨_, hD'⟩
      have hv' : v = .int (i : Int) ti := by rw [hv, Int.zero_add]
      have f1 : (fun u => if u = Str.ofString "k" then some v else m₃ u) (Str.ofString "k") = some (.int (i : Int) ti) := (if_pos rfl).trans (congrArg some hv')
      have NC : News h₀ L h' ((C, oC) :: every h₀ h' L) := fun p hp => by
        rcases List.mem_cons.mp hp with rfl | hp
        · exact ⟨heC, hCL, hX _ hCX⟩
        · exact every_news p hp
      have hit : ∀ (Q' : Value → Shared → Prop), (∀ t h₃ tk₃, Fr h₀ L h₃ m → News h₀ L h₃ ((C, oC) :: every h₀ h' L) → Q' (.str (nm3 i) t) { s with heap := h₃, toks := tk₃ }) →
          wpAny (model PySem.Challenge.rw_pg0251_01.row.prog w) (lawA w L aL cd) (eval (lcIter (lc3 w) 1) (cE3 w L aL cd C)) Q' E' { s with heap := h', toks := tk } := fun Q' k => by
        rcases lt3 hi with rfl | rfl | rfl
        · exact it3n_0 w mean mg mb h₀ L aL cd m _ C oC ti (every h₀ h' L) hoC f1 { s with heap := h', toks := tk } _ _ B XF T c.1 NC k
        · exact it3n_1 w mean mg mb h₀ L aL cd m _ C oC ti (every h₀ h' L) hoC f1 { s with heap := h', toks := tk } _ _ B XF T c.1 NC k
        · exact it3n_2 w mean mg mb h₀ L aL cd m _ C oC ti (every h₀ h' L) hoC f1 { s with heap := h', toks := tk } _ _ B XF T c.1 NC k
      refine hit _ fun t h₃ tk₃ F₃ N₃ => ?_
      have K3 := every_kept c.1 F₃ N₃ fun p hp => .tail _ hp
      have c3 := c.re F₃ K3
      have ha : (nm3 i).cps.all (· < 128) = true := by rcases lt3 hi with rfl | rfl | rfl <;> decide +kernel
      have hs3 : (nm3 i).cps.size = 3 := by rcases lt3 hi with rfl | rfl | rfl <;> decide +kernel
      obtain ⟨_, src'⟩ := Source.ascii (prog := PySem.Challenge.rw_pg0251_01.row.prog) (w := w) (A := lawA w L aL cd) (h := h₃) (x := nm3 i) (t := t) (by rfl) ha
      refine src' { s with heap := h₃, toks := tk₃ } _ _ rfl fun o' St' W' hlive' st0' => ?_
      rw [hs3] at W'
      have up3 : ∀ b ob, h₃.get? b = some ob → (h₃.push o').get? b = some ob := fun b ob e => Heap.get?_push_of_some _ e
      have lt3' : ∀ a ∈ X, a ≠ h₃.objs.size := fun a ha => by
        obtain ⟨o, e⟩ := live a ha
        exact Nat.ne_of_lt (Heap.lt_size (K3 _ _ (fun q => hLX (q ▸ ha)) e))
      dsimp only
      have loop : ∀ tk, codeAny (model PySem.Challenge.rw_pg0251_01.row.prog w) (lawA w L aL cd) (.compLoop (LC3 w) 1 (.ref h₃.objs.size) (.ref D) (cE3 w L aL cd C)) (fun r s₆ => ∃ f h₆ tk₆ m₆ ys₆, r = .ok f ∧ s₆ = { s with heap := h₆, toks := tk₆ } ∧ (∀ b o, b ≠ C → b ≠ D → b ≠ L → h'.get? b = some o → h₆.get? b = some o) ∧ h₆.Ns C m₆ ∧ h₆.get? D = some (lst ys₆) ∧
          (∃ objs, GInv h₀ L m base X objs h₆ ∧ Made P (3 * (i + 1)) ys₆ objs)) { s with heap := h₃.push o', toks := tk } := fun tk => by
        refine inner_loop (s := { s with heap := h₃.push o', toks := tk }) (X := h₃.objs.size :: X) (x1 := Str.ofString "k") (n := 3) (n0 := 3 * i) (P0 := SignAt (nm3 i)) hg1 (lc3_g2 w) (Nat.le_trans (show 3 * i + 3 ≤ 27 by omega) (Nat.le_of_ble_eq_true rfl)) W' hlive' st0' (by rfl) (by rw [lc3_names]; decide) (by decide)
          (.head _) (.tail _ hCX) (.tail _ hDX) ?_ ?_ ?_ (Ne.symm (lt3' _ hCX)) (Ne.symm (lt3' _ hDX)) hCD (hn'.at' fun o e => up3 _ o (K3 _ _ hCL e)) f1 (up3 _ _ (K3 _ _ hDL hD')) ⟨objs, (c3.add (get_size h₃)).up up3, md⟩ (fun j v hj hvj => turn i j ti v hi hj hvj) fun h₆ tk₆ m₆ ys₆ n6 d6 c6 k6 => ?_
        · intro q
          rcases List.mem_cons.mp q with q | q
          · exact absurd F₃.ns.lt (q ▸ Nat.lt_irrefl _)
          · exact hLX q
        · intro a ha
          rcases List.mem_cons.mp ha with rfl | ha
          · exact new_none F₃ (get_size h₃)
          · exact hX a ha
        · intro a ha
          rcases List.mem_cons.mp ha with rfl | ha
          · exact hlive' 0 _ st0'
          · obtain ⟨o, e⟩ := live a ha
            exact ⟨o, up3 _ _ (K3 _ _ (fun q => hLX (q ▸ ha)) e)⟩
        · obtain ⟨objs', c6, md6⟩ := c6
          refine ⟨_, h₆, tk₆, m₆, ys₆, rfl, rfl, fun b o h1 h2 h3 e => ?_, n6, d6, objs', c6.drop fun a ha => .tail _ ha, md6⟩
          have e3 := K3 b o h3 e
          exact k6 b o h1 h2 h3 (Nat.ne_of_lt (Heap.lt_size e3)) (up3 _ _ e3)
      exact kn_start hg1 (loop _) (W'.self 0 _ _ _ st0' (loop _))
  exact kn_start hg (loop _) (W.self 0 _ _ _ st1 (loop _))
end
section
open PyProof.Rows.LCg
@[reducible] noncomputable def ent (n : Str) (x : PA) (u1 u2 : Tok) : Obj := { cls := .type "tuple", data := .seq #[.str n u1, .str (Tx x.2.1 x.2.2.1 x.2.2.2) u2] 0 }
noncomputable def nmAt (i : Nat) : Str := match i with | 0 => Str.ofString "a" | 1 => Str.ofString "b" | 2 => Str.ofString "C" | 3 => Str.ofString "a" | 4 => Str.ofString "B" | 5 => Str.ofString "c" | 6 => Str.ofString "A" | 7 => Str.ofString "B" | _ => Str.ofString "C"
theorem sgn_00 {v : Value} (h : SignAt (nm3 0) 0 v) : ∃ u, v = .str (Str.ofString "a") u := by
  obtain ⟨c, u, hc, rfl⟩ := h
  have e := Option.some.inj (hc.symm.trans (show (nm3 0).cps[0]? = some 97 by decide +kernel))
  subst e
  exact ⟨u, by rw [show Str.ofString "a" = ⟨#[97]⟩ by decide +kernel]⟩
theorem sgn_01 {v : Value} (h : SignAt (nm3 0) 1 v) : ∃ u, v = .str (Str.ofString "b") u := by
  obtain ⟨c, u, hc, rfl⟩ := h
  have e := Option.some.inj (hc.symm.trans (show (nm3 0).cps[1]? = some 98 by decide +kernel))
  subst e
  exact ⟨u, by rw [show Str.ofString "b" = ⟨#[98]⟩ by decide +kernel]⟩
theorem sgn_02 {v : Value} (h : SignAt (nm3 0) 2 v) : ∃ u, v = .str (Str.ofString "C") u := by
  obtain ⟨c, u, hc, rfl⟩ := h
  have e := Option.some.inj (hc.symm.trans (show (nm3 0).cps[2]? = some 67 by decide +kernel))
  subst e
  exact ⟨u, by rw [show Str.ofString "C" = ⟨#[67]⟩ by decide +kernel]⟩
theorem sgn_10 {v : Value} (h : SignAt (nm3 1) 0 v) : ∃ u, v = .str (Str.ofString "a") u := by
  obtain ⟨c, u, hc, rfl⟩ := h
  have e := Option.some.inj (hc.symm.trans (show (nm3 1).cps[0]? = some 97 by decide +kernel))
  subst e
  exact ⟨u, by rw [show Str.ofString "a" = ⟨#[97]⟩ by decide +kernel]⟩
theorem sgn_11 {v : Value} (h : SignAt (nm3 1) 1 v) : ∃ u, v = .str (Str.ofString "B") u := by
  obtain ⟨c, u, hc, rfl⟩ := h
  have e := Option.some.inj (hc.symm.trans (show (nm3 1).cps[1]? = some 66 by decide +kernel))
  subst e
  exact ⟨u, by rw [show Str.ofString "B" = ⟨#[66]⟩ by decide +kernel]⟩
theorem sgn_12 {v : Value} (h : SignAt (nm3 1) 2 v) : ∃ u, v = .str (Str.ofString "c") u := by
  obtain ⟨c, u, hc, rfl⟩ := h
  have e := Option.some.inj (hc.symm.trans (show (nm3 1).cps[2]? = some 99 by decide +kernel))
  subst e
  exact ⟨u, by rw [show Str.ofString "c" = ⟨#[99]⟩ by decide +kernel]⟩
theorem sgn_20 {v : Value} (h : SignAt (nm3 2) 0 v) : ∃ u, v = .str (Str.ofString "A") u := by
  obtain ⟨c, u, hc, rfl⟩ := h
  have e := Option.some.inj (hc.symm.trans (show (nm3 2).cps[0]? = some 65 by decide +kernel))
  subst e
  exact ⟨u, by rw [show Str.ofString "A" = ⟨#[65]⟩ by decide +kernel]⟩
theorem sgn_21 {v : Value} (h : SignAt (nm3 2) 1 v) : ∃ u, v = .str (Str.ofString "B") u := by
  obtain ⟨c, u, hc, rfl⟩ := h
  have e := Option.some.inj (hc.symm.trans (show (nm3 2).cps[1]? = some 66 by decide +kernel))
  subst e
  exact ⟨u, by rw [show Str.ofString "B" = ⟨#[66]⟩ by decide +kernel]⟩
theorem sgn_22 {v : Value} (h : SignAt (nm3 2) 2 v) : ∃ u, v = .str (Str.ofString "C") u := by
  obtain ⟨c, u, hc, rfl⟩ := h
  have e := Option.some.inj (hc.symm.trans (show (nm3 2).cps[2]? = some 67 by decide +kernel))
  subst e
  exact ⟨u, by rw [show Str.ofString "C" = ⟨#[67]⟩ by decide +kernel]⟩
/-- what one turn makes -/
noncomputable def EntP (n : Str) (x : PA) (y : Value) (no : List (Addr × Obj)) : Prop := ∃ T u1 u2, y = .ref T ∧ no = [(T, ent n x u1 u2)]
section
variable (w : World) (mean : ExcName → Option Value) (mg mb : Str → Option Value) {h₀ : Heap} {L aL : Addr} {cd : Value} {m : Str → Option Value} {base : List (Addr × Obj)} {q1 q2 q3 pt : Addr} {kt k1 k2 k3 : Nat} {x1 x2 x3 y1 y2 y3 z1 z2 z3 : PA} {oP : Obj} {s : Shared}
theorem ent_turn {n : Str} {p : PA} {kv : Value} {u : Tok} (B : Below callerA h₀ [] h₀) (XF : (Mine.hd.heap_1 w.params).In h₀) (T : Top VW LO mean mg mb h₀) (hp : PIn base p)
    (hit : ∀ C oC m₂ led, NsObj oC m₂ → m₂ "k" = some kv → m₂ "name" = some (.str n u) → (∀ p ∈ base, p ∈ led) → ItS w h₀ L aL cd m C p.1 oC led) :
    EltTurn2 PySem.Challenge.rw_pg0251_01.row.prog w (lawA w L aL cd) h₀ L m base (lcElt (lc3 w)) (Str.ofString "k") (Str.ofString "name") (lcScope (lc3 w)) (clo3 L) (lawE w L aL cd) s (EntP n p) kv (.str n u) := by
  intro C oC m₂ h tk led E' hC h1 h2 F N hb
  obtain ⟨i8, t1, t2, t3, mp⟩ := hp
  refine elt3 w mean mg mb h₀ L aL cd m m₂ C p.1 oC n u _ _ _ t1 t2 t3 led hC h2 (hb _ mp) i8 (hit C oC m₂ led hC h1 h2 hb) { s with heap := h, toks := tk } _ _ B XF T F N fun D u1 u2 h' tk' F' N' ne => ?_
  exact ⟨[(D, ent n p u1 u2)], h', tk', rfl, F', N', fun q hq p hp => by rw [List.mem_singleton.mp hq]; exact ne p hp, D, u1, u2, rfl, rfl⟩
set_option maxHeartbeats 8000000 in
/-- the table's entries -/
theorem tabC {Q : Value → Shared → Prop} {E : Value → Shared → Prop} (B : Below callerA h₀ [] h₀) (XF : (Mine.hd.heap_1 w.params).In h₀) (T : Top VW LO mean mg mb h₀) (F : Fr h₀ L s.heap m) (N : News h₀ L s.heap base)
    (hP : oP.data = .cell (some (.ref pt))) (mP : (L + 1, oP) ∈ base) (mt : rdObj pt q1 q2 q3 kt ∈ base)
    (mq1 : rdObj q1 x1.1 x2.1 x3.1 k1 ∈ base) (mq2 : rdObj q2 y1.1 y2.1 y3.1 k2 ∈ base) (mq3 : rdObj q3 z1.1 z2.1 z3.1 k3 ∈ base)
    (hx1 : PIn base x1) (hx2 : PIn base x2) (hx3 : PIn base x3) (hy1 : PIn base y1) (hy2 : PIn base y2) (hy3 : PIn base y3) (hz1 : PIn base z1) (hz2 : PIn base z2) (hz3 : PIn base z3)
    (hret : ∀ (D T1 T2 T3 T4 T5 T6 T7 T8 T9 : Addr) (a1 b1 a2 b2 a3 b3 a4 b4 a5 b5 a6 b6 a7 b7 a8 b8 a9 b9 : Tok) h' tk', Fr h₀ L h' m → News h₀ L h' ((D, ({ cls := .type "list", data := .seq #[.ref T1, .ref T2, .ref T3, .ref T4, .ref T5, .ref T6, .ref T7, .ref T8, .ref T9] 9 } : Obj)) :: (base ++ [(T1, ent (Str.ofString "a") x1 a1 b1), (T2, ent (Str.ofString "b") y1 a2 b2), (T3, ent (Str.ofString "C") z1 a3 b3), (T4, ent (Str.ofString "a") x2 a4 b4), (T5, ent (Str.ofString "B") y2 a5 b5), (T6, ent (Str.ofString "c") z2 a6 b6), (T7, ent (Str.ofString "A") x3 a7 b7), (T8, ent (Str.ofString "B") y3 a8 b8), (T9, ent (Str.ofString "C") z3 a9 b9)])) → (∀ p ∈ base, p.1 ≠ D) → Q (.ref D) { s with heap := h', toks := tk' }) :
    wpAny (model PySem.Challenge.rw_pg0251_01.row.prog w) (lawA w L aL cd) (eval (lc3 w) (lawE w L aL cd)) Q E s := by
  refine comp3t w mean mg mb (P := fun n => EntP (nmAt n) (([x1, y1, z1, x2, y2, z2, x3, y3, z3] : List PA).getD n x1)) B XF T F N (fun i j t v hi hj hs => ?_) fun D ys objs h' tk' F' N' off md => ?_
  · rcases lt3 hi with rfl | rfl | rfl <;> rcases lt3 hj with rfl | rfl | rfl
    · obtain ⟨u, rfl⟩ := sgn_00 hs
      refine ent_turn w mean mg mb B XF T hx1 fun C oC m₂ led hC h1 h2 hb => ?_
      intro s' Q' E' F' N' k
      exact it3_00 w mean mg mb h₀ L aL cd m m₂ C pt q1 q2 q3 x1.1 x2.1 x3.1 oC oP kt k1 t u led hC h1 h2 hP (hb _ mP) (hb _ mt) (hb _ mq1) s' Q' E' B XF T F' N' k
    · obtain ⟨u, rfl⟩ := sgn_01 hs
      refine ent_turn w mean mg mb B XF T hy1 fun C oC m₂ led hC h1 h2 hb => ?_
      intro s' Q' E' F' N' k
      exact it3_10 w mean mg mb h₀ L aL cd m m₂ C pt q1 q2 q3 y1.1 y2.1 y3.1 oC oP kt k2 t u led hC h1 h2 hP (hb _ mP) (hb _ mt) (hb _ mq2) s' Q' E' B XF T F' N' k
    · obtain ⟨u, rfl⟩ := sgn_02 hs
      refine ent_turn w mean mg mb B XF T hz1 fun C oC m₂ led hC h1 h2 hb => ?_
      intro s' Q' E' F' N' k
      exact it3_20 w mean mg mb h₀ L aL cd m m₂ C pt q1 q2 q3 z1.1 z2.1 z3.1 oC oP kt k3 t u led hC h1 h2 hP (hb _ mP) (hb _ mt) (hb _ mq3) s' Q' E' B XF T F' N' k
    · obtain ⟨u, rfl⟩ := sgn_10 hs
      refine ent_turn w mean mg mb B XF T hx2 fun C oC m₂ led hC h1 h2 hb => ?_
      intro s' Q' E' F' N' k
      exact it3_01 w mean mg mb h₀ L aL cd m m₂ C pt q1 q2 q3 x1.1 x2.1 x3.1 oC oP kt k1 t u led hC h1 h2 hP (hb _ mP) (hb _ mt) (hb _ mq1) s' Q' E' B XF T F' N' k
    · obtain ⟨u, rfl⟩ := sgn_11 hs
      refine ent_turn w mean mg mb B XF T hy2 fun C oC m₂ led hC h1 h2 hb => ?_
      intro s' Q' E' F' N' k
      exact it3_11 w mean mg mb h₀ L aL cd m m₂ C pt q1 q2 q3 y1.1 y2.1 y3.1 oC oP kt k2 t u led hC h1 h2 hP (hb _ mP) (hb _ mt) (hb _ mq2) s' Q' E' B XF T F' N' k
    · obtain ⟨u, rfl⟩ := sgn_12 hs
      refine ent_turn w mean mg mb B XF T hz2 fun C oC m₂ led hC h1 h2 hb => ?_
      intro s' Q' E' F' N' k
      exact it3_21 w mean mg mb h₀ L aL cd m m₂ C pt q1 q2 q3 z1.1 z2.1 z3.1 oC oP kt k3 t u led hC h1 h2 hP (hb _ mP) (hb _ mt) (hb _ mq3) s' Q' E' B XF T F' N' k
    · obtain ⟨u, rfl⟩ := sgn_20 hs
      refine ent_turn w mean mg mb B XF T hx3 fun C oC m₂ led hC h1 h2 hb => ?_
      intro s' Q' E' F' N' k
      exact it3_02 w mean mg mb h₀ L aL cd m m₂ C pt q1 q2 q3 x1.1 x2.1 x3.1 oC oP kt k1 t u led hC h1 h2 hP (hb _ mP) (hb _ mt) (hb _ mq1) s' Q' E' B XF T F' N' k
    · obtain ⟨u, rfl⟩ := sgn_21 hs
      refine ent_turn w mean mg mb B XF T hy3 fun C oC m₂ led hC h1 h2 hb => ?_
      intro s' Q' E' F' N' k
      exact it3_12 w mean mg mb h₀ L aL cd m m₂ C pt q1 q2 q3 y1.1 y2.1 y3.1 oC oP kt k2 t u led hC h1 h2 hP (hb _ mP) (hb _ mt) (hb _ mq2) s' Q' E' B XF T F' N' k
    · obtain ⟨u, rfl⟩ := sgn_22 hs
      refine ent_turn w mean mg mb B XF T hz3 fun C oC m₂ led hC h1 h2 hb => ?_
      intro s' Q' E' F' N' k
      exact it3_22 w mean mg mb h₀ L aL cd m m₂ C pt q1 q2 q3 z1.1 z2.1 z3.1 oC oP kt k3 t u led hC h1 h2 hP (hb _ mP) (hb _ mt) (hb _ mq3) s' Q' E' B XF T F' N' k
  obtain ⟨ys9, ob9, v9, n9, ey9, eo9, e9, T9, a9, b9, ry9, rn9⟩ := md.inv
  obtain ⟨ys8, ob8, v8, n8, ey8, eo8, e8, T8, a8, b8, ry8, rn8⟩ := e9.inv
  obtain ⟨ys7, ob7, v7, n7, ey7, eo7, e7, T7, a7, b7, ry7, rn7⟩ := e8.inv
  obtain ⟨ys6, ob6, v6, n6, ey6, eo6, e6, T6, a6, b6, ry6, rn6⟩ := e7.inv
  obtain ⟨ys5, ob5, v5, n5, ey5, eo5, e5, T5, a5, b5, ry5, rn5⟩ := e6.inv
  obtain ⟨ys4, ob4, v4, n4, ey4, eo4, e4, T4, a4, b4, ry4, rn4⟩ := e5.inv
  obtain ⟨ys3, ob3, v3, n3, ey3, eo3, e3, T3, a3, b3, ry3, rn3⟩ := e4.inv
  obtain ⟨ys2, ob2, v2, n2, ey2, eo2, e2, T2, a2, b2, ry2, rn2⟩ := e3.inv
  obtain ⟨ys1, ob1, v1, n1, ey1, eo1, e1, T1, a1, b1, ry1, rn1⟩ := e2.inv
  obtain ⟨ey0, eo0⟩ := e1.inv0
  have EY : ys = [.ref T1, .ref T2, .ref T3, .ref T4, .ref T5, .ref T6, .ref T7, .ref T8, .ref T9] := by
    rw [ey9, ey8, ey7, ey6, ey5, ey4, ey3, ey2, ey1, ey0, ry1, ry2, ry3, ry4, ry5, ry6, ry7, ry8, ry9]
    rfl
  have EO : objs = [(T1, ent (Str.ofString "a") x1 a1 b1), (T2, ent (Str.ofString "b") y1 a2 b2), (T3, ent (Str.ofString "C") z1 a3 b3), (T4, ent (Str.ofString "a") x2 a4 b4), (T5, ent (Str.ofString "B") y2 a5 b5), (T6, ent (Str.ofString "c") z2 a6 b6), (T7, ent (Str.ofString "A") x3 a7 b7), (T8, ent (Str.ofString "B") y3 a8 b8), (T9, ent (Str.ofString "C") z3 a9 b9)] := by
    rw [eo9, eo8, eo7, eo6, eo5, eo4, eo3, eo2, eo1, eo0, rn1, rn2, rn3, rn4, rn5, rn6, rn7, rn8, rn9]
    rfl
  rw [EY, EO] at N'
  exact hret D T1 T2 T3 T4 T5 T6 T7 T8 T9 a1 b1 a2 b2 a3 b3 a4 b4 a5 b5 a6 b6 a7 b7 a8 b8 a9 b9 h' tk' F' N' fun p hp => off p (List.mem_append_left _ hp)
end
end
section
open PyProof.Rows.LCg
/-- no sign of a figure is a control sign -/
noncomputable def noFindB (code : List Nat) (t : Str) : Bool := match ((Sre.forSearch code.toArray t.cps 0 (min 0 t.cps.size) (min (2 ^ 63 - 1) t.cps.size) false).runFor 4).outcome with
  | some .failed => true
  | _ => false
theorem noFind_of {code : List Nat} {t : Str} (h : noFindB code t = true) : NoFind code t := by
  unfold noFindB at h; unfold NoFind
  split at h
  · rename_i e; first | trivial | (rw [e]; trivial)
  · cases h
theorem noFind_all : ((List.range 9).all fun a => (List.range 9).all fun b => (List.range 9).all fun c => noFindB codeVl ⟨#[48 + a, 48 + b, 48 + c]⟩) = true := by decide +kernel
theorem noFind_Tx {a b c : Int} (h : In8 a b c) : NoFind codeVl (Tx a b c) := by
  obtain ⟨h1, h2, h3⟩ := h
  have h := noFind_all
  rw [List.all_eq_true] at h
  have h := h a.toNat (List.mem_range.mpr (by omega))
  rw [List.all_eq_true] at h
  have h := h b.toNat (List.mem_range.mpr (by omega))
  rw [List.all_eq_true] at h
  exact noFind_of (h c.toNat (List.mem_range.mpr (by omega)))
theorem noFind_a : NoFind codeNm (Str.ofString "a") := noFind_of (by decide +kernel)
theorem noFind_b : NoFind codeNm (Str.ofString "b") := noFind_of (by decide +kernel)
theorem noFind_c : NoFind codeNm (Str.ofString "c") := noFind_of (by decide +kernel)
theorem noFind_A : NoFind codeNm (Str.ofString "A") := noFind_of (by decide +kernel)
theorem noFind_B : NoFind codeNm (Str.ofString "B") := noFind_of (by decide +kernel)
theorem noFind_C : NoFind codeNm (Str.ofString "C") := noFind_of (by decide +kernel)
theorem subL_tail {p : Addr × Obj} : ∀ {l all : List (Addr × Obj)}, SubL l all → SubL l (p :: all)
  | [], _, _ => trivial
  | _ :: _, _, h => And.intro (.tail _ h.1) (subL_tail h.2)
set_option maxHeartbeats 8000000 in
/-- Headers(..) -/
theorem mkHeaders (w : World) (mean mg mb) {h₀ : Heap} {L aL l : Addr} {cd : Value} {m : Str → Option Value} {news : List (Addr × Obj)} {T1 T2 T3 T4 T5 T6 T7 T8 T9 : Addr} {x1 x2 x3 y1 y2 y3 z1 z2 z3 : PA} {a1 b1 a2 b2 a3 b3 a4 b4 a5 b5 a6 b6 a7 b7 a8 b8 a9 b9 : Tok} {s : Shared} {Q : Value → Shared → Prop} {E : Value → Shared → Prop}
    (B : Below callerA h₀ [] h₀) (X : (Mine.hd.heap_1 w.params).In h₀) (T : Top VW LO mean mg mb h₀) (F : Fr h₀ L s.heap m) (N : News h₀ L s.heap news) (hsub : SubL [(l, ({ cls := .type "list", data := .seq #[.ref T1, .ref T2, .ref T3, .ref T4, .ref T5, .ref T6, .ref T7, .ref T8, .ref T9] 9 } : Obj)), (T1, ent (Str.ofString "a") x1 a1 b1), (T2, ent (Str.ofString "b") y1 a2 b2), (T3, ent (Str.ofString "C") z1 a3 b3), (T4, ent (Str.ofString "a") x2 a4 b4), (T5, ent (Str.ofString "B") y2 a5 b5), (T6, ent (Str.ofString "c") z2 a6 b6), (T7, ent (Str.ofString "A") x3 a7 b7), (T8, ent (Str.ofString "B") y3 a8 b8), (T9, ent (Str.ofString "C") z3 a9 b9)] news)
    (ix1 : In8 x1.2.1 x1.2.2.1 x1.2.2.2) (ix2 : In8 x2.2.1 x2.2.2.1 x2.2.2.2) (ix3 : In8 x3.2.1 x3.2.2.1 x3.2.2.2) (iy1 : In8 y1.2.1 y1.2.2.1 y1.2.2.2) (iy2 : In8 y2.2.1 y2.2.2.1 y2.2.2.2) (iy3 : In8 y3.2.1 y3.2.2.1 y3.2.2.2) (iz1 : In8 z1.2.1 z1.2.2.1 z1.2.2.2) (iz2 : In8 z2.2.1 z2.2.2.1 z2.2.2.2) (iz3 : In8 z3.2.1 z3.2.2.1 z3.2.2.2)
    (hret : ∀ x d kh kt h' tk', Fr h₀ L h' m → News h₀ L h' ((x, instObj 218 d) :: (d, dictOf [⟨kh, .str (Str.ofString "_headers") kt, .ref l⟩] 1) :: news) → (∀ p ∈ news, p.1 ≠ x ∧ p.1 ≠ d) → Q (.ref x) { s with heap := h', toks := tk' }) :
    wpAny (model PySem.Challenge.rw_pg0251_01.row.prog w) (lawA w L aL cd) (call (.ref 218) [.ref l] []) Q E s := by
  refine call_cls F X N (by rfl) (by rfl) (by rfl) fun x d h' F' N' l1 l2 => ?_
  have hxd : x ≠ d := Nat.ne_of_gt l2
  refine tell_useM (init_tell w mean mg mb x d l 9 T1 T2 T3 T4 T5 T6 T7 T8 T9 (Str.ofString "a") (Tx x1.2.1 x1.2.2.1 x1.2.2.2) (Str.ofString "b") (Tx y1.2.1 y1.2.2.1 y1.2.2.2) (Str.ofString "C") (Tx z1.2.1 z1.2.2.1 z1.2.2.2) (Str.ofString "a") (Tx x2.2.1 x2.2.2.1 x2.2.2.2) (Str.ofString "B") (Tx y2.2.1 y2.2.2.1 y2.2.2.2) (Str.ofString "c") (Tx z2.2.1 z2.2.2.1 z2.2.2.2) (Str.ofString "A") (Tx x3.2.1 x3.2.2.1 x3.2.2.2) (Str.ofString "B") (Tx y3.2.1 y3.2.2.1 y3.2.2.2) (Str.ofString "C") (Tx z3.2.1 z3.2.2.1 z3.2.2.2) a1 b1 a2 b2 a3 b3 a4 b4 a5 b5 a6 b6 a7 b7 a8 b8 a9 b9 noFind_a (noFind_Tx ix1) noFind_b (noFind_Tx iy1) noFind_C (noFind_Tx iz1) noFind_a (noFind_Tx ix2) noFind_B (noFind_Tx iy2) noFind_c (noFind_Tx iz2) noFind_A (noFind_Tx ix3) noFind_B (noFind_Tx iy3) noFind_C (noFind_Tx iz3)) B F' X (swapN N') ?_ T ?_ ?_ ?_ (And.intro (.head _) (subL_tail hsub)) ?_
  · exact And.intro (Ne.symm hxd) (NeAll.of fun q hq => Nat.ne_of_gt (l1 q hq))
  · exact rfl
  · exact Nat.le_of_ble_eq_true rfl
  · exact Nat.le_of_ble_eq_true rfl
  · intro r o' tl h2 tk2 p F2 N2 ne
    obtain ⟨rfl, rfl, kh, kt, rfl⟩ := p
    exact ⟨rfl, hret x d kh kt h2 tk2 F2 (swapN N2) fun q hq => ⟨Nat.ne_of_lt (Nat.lt_trans (l1 q hq) l2), Nat.ne_of_lt (l1 q hq)⟩⟩
end
section

theorem subL_app (base : List (Addr × Obj)) : ∀ {l : List (Addr × Obj)}, SubL l (base ++ l) := by
  have key : ∀ (l all : List (Addr × Obj)), (∀ p ∈ l, p ∈ all) → SubL l all := by
    intro l
    induction l with
    | nil => intro _ _; exact trivial
    | cons p l ih => intro all h; exact And.intro (h p (.head _)) (ih all fun q hq => h q (.tail _ hq))
  intro l
  exact key l _ fun p hp => List.mem_append_right _ hp
theorem PIn.i8 {base : List (Addr × Obj)} {p : PA} (h : PIn base p) : In8 p.2.1 p.2.2.1 p.2.2.2 := h.1

set_option maxRecDepth 100000 in
set_option maxHeartbeats 8000000 in
theorem s3e (w : World) (mean mg mb) (h₀ : Heap) (L aL : Addr) (cd : Value) (m : Str → Option Value) (q1 q2 q3 pt : Addr) (kt k1 k2 k3 : Nat) (x1 x2 x3 y1 y2 y3 z1 z2 z3 : PA) (oP : Obj) (led : List (Addr × Obj))
   (hP : oP.data = .cell (some (.ref pt))) (mP : (L + 1, oP) ∈ led) (mt : rdObj pt q1 q2 q3 kt ∈ led) (mq1 : rdObj q1 x1.1 x2.1 x3.1 k1 ∈ led) (mq2 : rdObj q2 y1.1 y2.1 y3.1 k2 ∈ led) (mq3 : rdObj q3 z1.1 z2.1 z3.1 k3 ∈ led) (hx1 : PIn led x1) (hx2 : PIn led x2) (hx3 : PIn led x3) (hy1 : PIn led y1) (hy2 : PIn led y2) (hy3 : PIn led y3) (hz1 : PIn led z1) (hz2 : PIn led z2) (hz3 : PIn led z3) (s : Shared) (Q : Value → Shared → Prop) (E : Value → Shared → Prop)
   (B : Below callerA h₀ [] h₀) (X : (Mine.hd.heap_1 w.params).In h₀) (T : Top VW LO mean mg mb h₀) (F : Fr h₀ L s.heap m) (N : News h₀ L s.heap led)
   (hret : ∀ (l x d T1 T2 T3 T4 T5 T6 T7 T8 T9 : Addr) (kh : Int) (kt : Tok) (a1 b1 a2 b2 a3 b3 a4 b4 a5 b5 a6 b6 a7 b7 a8 b8 a9 b9 : Tok) h' tk', Fr h₀ L h' m → News h₀ L h' ((x, instObj 218 d) :: (d, dictOf [⟨kh, .str (Str.ofString "_headers") kt, .ref l⟩] 1) :: (l, ({ cls := .type "list", data := .seq #[.ref T1, .ref T2, .ref T3, .ref T4, .ref T5, .ref T6, .ref T7, .ref T8, .ref T9] 9 } : Obj)) :: (led ++ [(T1, ent (Str.ofString "a") x1 a1 b1), (T2, ent (Str.ofString "b") y1 a2 b2), (T3, ent (Str.ofString "C") z1 a3 b3), (T4, ent (Str.ofString "a") x2 a4 b4), (T5, ent (Str.ofString "B") y2 a5 b5), (T6, ent (Str.ofString "c") z2 a6 b6), (T7, ent (Str.ofString "A") x3 a7 b7), (T8, ent (Str.ofString "B") y3 a8 b8), (T9, ent (Str.ofString "C") z3 a9 b9)])) → (∀ p ∈ led, p.1 ≠ x ∧ p.1 ≠ d ∧ p.1 ≠ l) → Q (.ref x) { s with heap := h', toks := tk' }) :
    wpAny (model PySem.Challenge.rw_pg0251_01.row.prog w) (lawA w L aL cd) (eval (assignVal ((fnBody (lawO w)).getD 3 (.Pass default))) (lawE w L aL cd)) Q E s := by
  w_on; revert X; k_fill; intro X
  k_dflt (show wpAny _ (callerA.deeper (envOfC _ (Scope.mk _ _ _ _ _) _ _ _)) (eval (.Call _ _ _ _) (envOfC _ (Scope.mk _ _ _ _ _) _ _ _)) _ _ _)
  (try dsimp only); (try k_fold)
  repeat' (first | (k_here; (with_reducible show wpAny _ _ (eval (Expr.ListComp _ _ _ _) _) _ _ _); k_dflt (refine' tabC w mean mg mb ?B ?X ?T ?F ?N ?hP ?mP ?mt ?mq1 ?mq2 ?mq3 ?hx1 ?hx2 ?hx3 ?hy1 ?hy2 ?hy3 ?hz1 ?hz2 ?hz3 ?_; (case B => k_asm); (case X => k_asm); (case T => k_asm); (case F => k_asm); (case N => k_asm); (case hP => assumption); (case mP => assumption); (case mt => assumption); (case mq1 => assumption); (case mq2 => assumption); (case mq3 => assumption); (case hx1 => assumption); (case hx2 => assumption); (case hx3 => assumption); (case hy1 => assumption); (case hy2 => assumption); (case hy3 => assumption); (case hz1 => assumption); (case hz2 => assumption); (case hz3 => assumption); intro D' T1' T2' T3' T4' T5' T6' T7' T8' T9' a1' b1' a2' b2' a3' b3' a4' b4' a5' b5' a6' b6' a7' b7' a8' b8' a9' b9' h' tk' F' N' l1'); (try k_sweep); (try dsimp only); (try k_fold)) | (k_here; (with_reducible show wpAny _ _ (call (Value.ref _) _ _) _ _ _); (try dsimp only [List.cons_append, List.nil_append]); k_dflt (refine' mkHeaders w mean mg mb ?B ?X ?T ?F ?N ?hs ?ix1 ?ix2 ?ix3 ?iy1 ?iy2 ?iy3 ?iz1 ?iz2 ?iz3 ?_; (case B => k_asm); (case X => k_asm); (case T => k_asm); (case F => k_asm); (case N => k_asm); (case hs => exact And.intro (.head _) (subL_tail (subL_app _))); (case ix1 => exact PIn.i8 (by assumption)); (case ix2 => exact PIn.i8 (by assumption)); (case ix3 => exact PIn.i8 (by assumption)); (case iy1 => exact PIn.i8 (by assumption)); (case iy2 => exact PIn.i8 (by assumption)); (case iy3 => exact PIn.i8 (by assumption)); (case iz1 => exact PIn.i8 (by assumption)); (case iz2 => exact PIn.i8 (by assumption)); (case iz3 => exact PIn.i8 (by assumption)); intro x' d' kh' kt' h' tk' F' N' l2'); (try k_sweep); (try dsimp only); (try k_fold)) | ((with_reducible show wpAny _ _ (eval (Expr.Name _ _) _) _ _ _); (k_here; k_dflt (first | (refine' nameX_L ?zqk1 ?zqk2 ?_; (case zqk1 => k_asm); (case zqk2 => assumption)) | (refine' nameX_C ?zqN ?zqc ?zqm ?zqd ?_ ?zqa ?zqb; (case zqa => rfl); (case zqb => rfl); (case zqN => k_asm); (case zqc => rfl); (case zqm => k_mem); (case zqd => assumption); k_whole)))) | ((with_reducible show wpAny _ _ (exec (Stmt.For (Expr.Name _ _) (Expr.Name _ _) _ _ _) _) _ _ _); (k_here; (rename Fr _ _ _ _ => lF'); (with_unfolding_all refine' For_turns lF' ?_; k_whole))) | ((with_reducible show wpAny _ _ (call (Value.builtin "list.insert") _ _) _ _ _); ((with_reducible show wpAny _ _ (call _ (_ ++ _)) _ _ _); dsimp only [List.cons_append, List.nil_append])) | ((with_reducible show wpAny _ _ (subscriptTail _ _ (Value.ref _) _) _ _ _); (k_here; (with_reducible show wpAny _ _ (subscriptTail _ _ (Value.ref _) (Value.int _ _)) _ _ _); k_dflt (refine' sub_any ?zqk1 ?zqk2 ?zqkh ?zqk3 ?zqk4 ?zqk5 ?_; (case zqk1 => k_asm); (case zqk2 => k_mem); (case zqkh => first | exact .inr ⟨_, rfl⟩ | exact .inl ⟨_, rfl⟩); (case zqk3 => decide); (case zqk4 => decide); (case zqk5 => rfl)))) | (k_unfold; (try dsimp only)) | (k_end; wrow_close) | (walk1 <;> (try dsimp only) <;> (try walk_at "mine split")) | (dsimp only; walk1) | (leave1; walk_say "STEP leave1"; try dsimp only) | fail "no step")
  all_goals first
  | exact hret _ _ _ _ _ _ _ _ _ _ _ _ _ _ _ _ _ _ _ _ _ _ _ _ _ _ _ _ _ _ _ _ _ _ (by k_asm) (by k_asm) (fun p hp => ⟨(l2' p (.tail _ (List.mem_append_left _ hp))).1, (l2' p (.tail _ (List.mem_append_left _ hp))).2, l1' p hp⟩)
  | skip
end
section
noncomputable def lc4 (w : World) : Expr := assignVal ((fnBody (lawO w)).getD 4 (.Pass default))
noncomputable def lcV (w : World) : Expr := lcElt (lc4 w)
noncomputable def lcI (w : World) : Expr := callArg (lcElt (lcV w)) 0
theorem lc4_names (w : World) : (lcScope (lc4 w)).names = [(Str.ofString ".0", .local), (Str.ofString "name", .local), (Str.ofString "table", .free)] := rfl
theorem lcV_names (w : World) : (lcScope (lcV w)).names = [(Str.ofString ".0", .local), (Str.ofString "value", .local), (Str.ofString "tuple", .globalImplicit)] := rfl
theorem lcI_names (w : World) : (lcScope (lcI w)).names = [(Str.ofString ".0", .local), (Str.ofString "sign", .local), (Str.ofString "int", .globalImplicit)] := rfl
noncomputable abbrev clo4 (L : Addr) : List (Str × Addr) := [(Str.ofString "table", L + 1 + 1 + 1 + 1 + 1)]
theorem clos4 (w : World) (L aL : Addr) (cd : Value) : closureFor (lcScope (lc4 w)) (lawE w L aL cd) = pure (clo4 L) := rfl
noncomputable abbrev cE4 (w : World) (L aL : Addr) (cd : Value) (C : Addr) : Env := compEnvC (lcScope (lc4 w)) (clo4 L) C (lawE w L aL cd)
theorem closV (w : World) (L aL : Addr) (cd : Value) (C : Addr) : closureFor (lcScope (lcV w)) (cE4 w L aL cd C) = pure [] := rfl
noncomputable abbrev cEV (w : World) (L aL : Addr) (cd : Value) (C C' : Addr) : Env := compEnvC (lcScope (lcV w)) [] C' (cE4 w L aL cd C)
theorem closI (w : World) (L aL : Addr) (cd : Value) (C C' : Addr) : closureFor (lcScope (lcI w)) (cEV w L aL cd C C') = pure [] := rfl
noncomputable abbrev cEI (w : World) (L aL : Addr) (cd : Value) (C C' C2 : Addr) : Env := compEnvC (lcScope (lcI w)) [] C2 (cEV w L aL cd C C')

set_option maxRecDepth 100000 in
set_option maxHeartbeats 8000000 in
theorem elI_0 (w : World) (mean mg mb) (h₀ : Heap) (L aL : Addr) (cd : Value) (m m₂ : Str → Option Value) (C C' C2 : Addr) (oC : Obj) (t : Tok) (led : List (Addr × Obj))
   (hC : PyProof.Rows.LCg.NsObj oC m₂) (hv : m₂ "sign" = some (.str (Str.ofString "0") t)) (s : Shared) (Q : Value → Shared → Prop) (E : Value → Shared → Prop)
   (B : Below callerA h₀ [] h₀) (X : (Mine.hd.heap_1 w.params).In h₀) (T : Top VW LO mean mg mb h₀) (F : Fr h₀ L s.heap m) (N : News h₀ L s.heap ((C2, oC) :: led))
   (hret : ∀ u h' tk', Fr h₀ L h' m → News h₀ L h' ((C2, oC) :: led) → Q (.int 0 u) { s with heap := h', toks := tk' }) :
    wpAny (model PySem.Challenge.rw_pg0251_01.row.prog w) (lawA w L aL cd) (eval (lcElt (lcI w)) (cEI w L aL cd C C' C2)) Q E s := by
  w_on; revert X; k_fill; intro X
  k_dflt (show wpAny _ (callerA.deeper (envOfC _ (Scope.mk _ _ _ _ _) _ _ _)) (eval (.Call _ _ _ _) (compEnvC (Scope.mk _ _ _ _ _) _ _ (compEnvC (Scope.mk _ _ _ _ _) _ _ (compEnvC (Scope.mk _ _ _ _ _) _ _ (envOfC _ (Scope.mk _ _ _ _ _) _ _ _))))) _ _ _)
  (try dsimp only); (try k_fold)
  repeat' (first | ((with_reducible show wpAny _ _ (eval (Expr.Name _ _) _) _ _ _); (k_here; k_dflt (first | (refine' nameX_L ?zqk1 ?zqk2 ?_; (case zqk1 => k_asm); (case zqk2 => assumption)) | (refine' nameX_C ?zqN ?zqc ?zqm ?zqd ?_ ?zqa ?zqb; (case zqa => rfl); (case zqb => rfl); (case zqN => k_asm); (case zqc => rfl); (case zqm => k_mem); (case zqd => assumption); k_whole)))) | ((with_reducible show wpAny _ _ (exec (Stmt.For (Expr.Name _ _) (Expr.Name _ _) _ _ _) _) _ _ _); (k_here; (rename Fr _ _ _ _ => lF'); (with_unfolding_all refine' For_turns lF' ?_; k_whole))) | ((with_reducible show wpAny _ _ (call (Value.builtin "list.insert") _ _) _ _ _); ((with_reducible show wpAny _ _ (call _ (_ ++ _)) _ _ _); dsimp only [List.cons_append, List.nil_append])) | ((with_reducible show wpAny _ _ (subscriptTail _ _ (Value.ref _) _) _ _ _); (k_here; (with_reducible show wpAny _ _ (subscriptTail _ _ (Value.ref _) (Value.int _ _)) _ _ _); k_dflt (refine' sub_any ?zqk1 ?zqk2 ?zqkh ?zqk3 ?zqk4 ?zqk5 ?_; (case zqk1 => k_asm); (case zqk2 => k_mem); (case zqkh => first | exact .inr ⟨_, rfl⟩ | exact .inl ⟨_, rfl⟩); (case zqk3 => decide); (case zqk4 => decide); (case zqk5 => rfl)))) | (k_unfold; (try dsimp only)) | (k_end; wrow_close) | (walk1 <;> (try dsimp only) <;> (try walk_at "mine split")) | (dsimp only; walk1) | (leave1; walk_say "STEP leave1"; try dsimp only) | fail "no step")
  all_goals first
  | exact hret _ _ _ (by k_asm) (by k_asm)
  | skip

set_option maxRecDepth 100000 in
set_option maxHeartbeats 8000000 in
theorem elI_1 (w : World) (mean mg mb) (h₀ : Heap) (L aL : Addr) (cd : Value) (m m₂ : Str → Option Value) (C C' C2 : Addr) (oC : Obj) (t : Tok) (led : List (Addr × Obj))
   (hC : PyProof.Rows.LCg.NsObj oC m₂) (hv : m₂ "sign" = some (.str (Str.ofString "1") t)) (s : Shared) (Q : Value → Shared → Prop) (E : Value → Shared → Prop)
   (B : Below callerA h₀ [] h₀) (X : (Mine.hd.heap_1 w.params).In h₀) (T : Top VW LO mean mg mb h₀) (F : Fr h₀ L s.heap m) (N : News h₀ L s.heap ((C2, oC) :: led))
   (hret : ∀ u h' tk', Fr h₀ L h' m → News h₀ L h' ((C2, oC) :: led) → Q (.int 1 u) { s with heap := h', toks := tk' }) :
    wpAny (model PySem.Challenge.rw_pg0251_01.row.prog w) (lawA w L aL cd) (eval (lcElt (lcI w)) (cEI w L aL cd C C' C2)) Q E s := by
  w_on; revert X; k_fill; intro X
  k_dflt (show wpAny _ (callerA.deeper (envOfC _ (Scope.mk _ _ _ _ _) _ _ _)) (eval (.Call _ _ _ _) (compEnvC (Scope.mk _ _ _ _ _) _ _ (compEnvC (Scope.mk _ _ _ _ _) _ _ (compEnvC (Scope.mk _ _ _ _ _) _ _ (envOfC _ (Scope.mk _ _ _ _ _) _ _ _))))) _ _ _)
  (try dsimp only); (try k_fold)
  repeat' (first | ((with_reducible show wpAny _ _ (eval (Expr.Name _ _) _) _ _ _); (k_here; k_dflt (first | (refine' nameX_L ?zqk1 ?zqk2 ?_; (case zqk1 => k_asm); (case zqk2 => assumption)) | (refine' nameX_C ?zqN ?zqc ?zqm ?zqd ?_ ?zqa ?zqb; (case zqa => rfl); (case zqb => rfl); (case zqN => k_asm); (case zqc => rfl); (case zqm => k_mem); (case zqd => assumption); k_whole)))) | ((with_reducible show wpAny _ _ (exec (Stmt.For (Expr.Name _ _) (Expr.Name _ _) _ _ _) _) _ _ _); (k_here; (rename Fr _ _ _ _ => lF'); (with_unfolding_all refine' For_turns lF' ?_; k_whole))) | ((with_reducible show wpAny _ _ (call (Value.builtin "list.insert") _ _) _ _ _); ((with_reducible show wpAny _ _ (call _ (_ ++ _)) _ _ _); dsimp only [List.cons_append, List.nil_append])) | ((with_reducible show wpAny _ _ (subscriptTail _ _ (Value.ref _) _) _ _ _); (k_here; (with_reducible show wpAny _ _ (subscriptTail _ _ (Value.ref _) (Value.int _ _)) _ _ _); k_dflt (refine' sub_any ?zqk1 ?zqk2 ?zqkh ?zqk3 ?zqk4 ?zqk5 ?_; (case zqk1 => k_asm); (case zqk2 => k_mem); (case zqkh => first | exact .inr ⟨_, rfl⟩ | exact .inl ⟨_, rfl⟩); (case zqk3 => decide); (case zqk4 => decide); (case zqk5 => rfl)))) | (k_unfold; (try dsimp only)) | (k_end; wrow_close) | (walk1 <;> (try dsimp only) <;> (try walk_at "mine split")) | (dsimp only; walk1) | (leave1; walk_say "STEP leave1"; try dsimp only) | fail "no step")
  all_goals first
  | exact hret _ _ _ (by k_asm) (by k_asm)
  | skip

set_option maxRecDepth 100000 in
set_option maxHeartbeats 8000000 in
theorem elI_2 (w : World) (mean mg mb) (h₀ : Heap) (L aL : Addr) (cd : Value) (m m₂ : Str → Option Value) (C C' C2 : Addr) (oC : Obj) (t : Tok) (led : List (Addr × Obj))
   (hC : PyProof.Rows.LCg.NsObj oC m₂) (hv : m₂ "sign" = some (.str (Str.ofString "2") t)) (s : Shared) (Q : Value → Shared → Prop) (E : Value → Shared → Prop)
   (B : Below callerA h₀ [] h₀) (X : (Mine.hd.heap_1 w.params).In h₀) (T : Top VW LO mean mg mb h₀) (F : Fr h₀ L s.heap m) (N : News h₀ L s.heap ((C2, oC) :: led))
   (hret : ∀ u h' tk', Fr h₀ L h' m → News h₀ L h' ((C2, oC) :: led) → Q (.int 2 u) { s with heap := h', toks := tk' }) :
    wpAny (model PySem.Challenge.rw_pg0251_01.row.prog w) (lawA w L aL cd) (eval (lcElt (lcI w)) (cEI w L aL cd C C' C2)) Q E s := by
  w_on; revert X; k_fill; intro X
  k_dflt (show wpAny _ (callerA.deeper (envOfC _ (Scope.mk _ _ _ _ _) _ _ _)) (eval (.Call _ _ _ _) (compEnvC (Scope.mk _ _ _ _ _) _ _ (compEnvC (Scope.mk _ _ _ _ _) _ _ (compEnvC (Scope.mk _ _ _ _ _) _ _ (envOfC _ (Scope.mk _ _ _ _ _) _ _ _))))) _ _ _)
  (try dsimp only); (try k_fold)
  repeat' (first | ((with_reducible show wpAny _ _ (eval (Expr.Name _ _) _) _ _ _); (k_here; k_dflt (first | (refine' nameX_L ?zqk1 ?zqk2 ?_; (case zqk1 => k_asm); (case zqk2 => assumption)) | (refine' nameX_C ?zqN ?zqc ?zqm ?zqd ?_ ?zqa ?zqb; (case zqa => rfl); (case zqb => rfl); (case zqN => k_asm); (case zqc => rfl); (case zqm => k_mem); (case zqd => assumption); k_whole)))) | ((with_reducible show wpAny _ _ (exec (Stmt.For (Expr.Name _ _) (Expr.Name _ _) _ _ _) _) _ _ _); (k_here; (rename Fr _ _ _ _ => lF'); (with_unfolding_all refine' For_turns lF' ?_; k_whole))) | ((with_reducible show wpAny _ _ (call (Value.builtin "list.insert") _ _) _ _ _); ((with_reducible show wpAny _ _ (call _ (_ ++ _)) _ _ _); dsimp only [List.cons_append, List.nil_append])) | ((with_reducible show wpAny _ _ (subscriptTail _ _ (Value.ref _) _) _ _ _); (k_here; (with_reducible show wpAny _ _ (subscriptTail _ _ (Value.ref _) (Value.int _ _)) _ _ _); k_dflt (refine' sub_any ?zqk1 ?zqk2 ?zqkh ?zqk3 ?zqk4 ?zqk5 ?_; (case zqk1 => k_asm); (case zqk2 => k_mem); (case zqkh => first | exact .inr ⟨_, rfl⟩ | exact .inl ⟨_, rfl⟩); (case zqk3 => decide); (case zqk4 => decide); (case zqk5 => rfl)))) | (k_unfold; (try dsimp only)) | (k_end; wrow_close) | (walk1 <;> (try dsimp only) <;> (try walk_at "mine split")) | (dsimp only; walk1) | (leave1; walk_say "STEP leave1"; try dsimp only) | fail "no step")
  all_goals first
  | exact hret _ _ _ (by k_asm) (by k_asm)
  | skip

set_option maxRecDepth 100000 in
set_option maxHeartbeats 8000000 in
theorem elI_3 (w : World) (mean mg mb) (h₀ : Heap) (L aL : Addr) (cd : Value) (m m₂ : Str → Option Value) (C C' C2 : Addr) (oC : Obj) (t : Tok) (led : List (Addr × Obj))
   (hC : PyProof.Rows.LCg.NsObj oC m₂) (hv : m₂ "sign" = some (.str (Str.ofString "3") t)) (s : Shared) (Q : Value → Shared → Prop) (E : Value → Shared → Prop)
   (B : Below callerA h₀ [] h₀) (X : (Mine.hd.heap_1 w.params).In h₀) (T : Top VW LO mean mg mb h₀) (F : Fr h₀ L s.heap m) (N : News h₀ L s.heap ((C2, oC) :: led))
   (hret : ∀ u h' tk', Fr h₀ L h' m → News h₀ L h' ((C2, oC) :: led) → Q (.int 3 u) { s with heap := h', toks := tk' }) :
    wpAny (model PySem.Challenge.rw_pg0251_01.row.prog w) (lawA w L aL cd) (eval (lcElt (lcI w)) (cEI w L aL cd C C' C2)) Q E s := by
  w_on; revert X; k_fill; intro X
  k_dflt (show wpAny _ (callerA.deeper (envOfC _ (Scope.mk _ _ _ _ _) _ _ _)) (eval (.Call _ _ _ _) (compEnvC (Scope.mk _ _ _ _ _) _ _ (compEnvC (Scope.mk _ _ _ _ _) _ _ (compEnvC (Scope.mk _ _ _ _ _) _ _ (envOfC _ (Scope.mk _ _ _ _ _) _ _ _))))) _ _ _)
  (try dsimp only); (try k_fold)
  repeat' (first | ((with_reducible show wpAny _ _ (eval (Expr.Name _ _) _) _ _ _); (k_here; k_dflt (first | (refine' nameX_L ?zqk1 ?zqk2 ?_; (case zqk1 => k_asm); (case zqk2 => assumption)) | (refine' nameX_C ?zqN ?zqc ?zqm ?zqd ?_ ?zqa ?zqb; (case zqa => rfl); (case zqb => rfl); (case zqN => k_asm); (case zqc => rfl); (case zqm => k_mem); (case zqd => assumption); k_whole)))) | ((with_reducible show wpAny _ _ (exec (Stmt.For (Expr.Name _ _) (Expr.Name _ _) _ _ _) _) _ _ _); (k_here; (rename Fr _ _ _ _ => lF'); (with_unfolding_all refine' For_turns lF' ?_; k_whole))) | ((with_reducible show wpAny _ _ (call (Value.builtin "list.insert") _ _) _ _ _); ((with_reducible show wpAny _ _ (call _ (_ ++ _)) _ _ _); dsimp only [List.cons_append, List.nil_append])) | ((with_reducible show wpAny _ _ (subscriptTail _ _ (Value.ref _) _) _ _ _); (k_here; (with_reducible show wpAny _ _ (subscriptTail _ _ (Value.ref _) (Value.int _ _)) _ _ _); k_dflt (refine' sub_any ?zqk1 ?zqk2 ?zqkh ?zqk3 ?zqk4 ?zqk5 ?_; (case zqk1 => k_asm); (case zqk2 => k_mem); (case zqkh => first | exact .inr ⟨_, rfl⟩ | exact .inl ⟨_, rfl⟩); (case zqk3 => decide); (case zqk4 => decide); (case zqk5 => rfl)))) | (k_unfold; (try dsimp only)) | (k_end; wrow_close) | (walk1 <;> (try dsimp only) <;> (try walk_at "mine split")) | (dsimp only; walk1) | (leave1; walk_say "STEP leave1"; try dsimp only) | fail "no step")
  all_goals first
  | exact hret _ _ _ (by k_asm) (by k_asm)
  | skip

set_option maxRecDepth 100000 in
set_option maxHeartbeats 8000000 in
theorem elI_4 (w : World) (mean mg mb) (h₀ : Heap) (L aL : Addr) (cd : Value) (m m₂ : Str → Option Value) (C C' C2 : Addr) (oC : Obj) (t : Tok) (led : List (Addr × Obj))
   (hC : PyProof.Rows.LCg.NsObj oC m₂) (hv : m₂ "sign" = some (.str (Str.ofString "4") t)) (s : Shared) (Q : Value → Shared → Prop) (E : Value → Shared → Prop)
   (B : Below callerA h₀ [] h₀) (X : (Mine.hd.heap_1 w.params).In h₀) (T : Top VW LO mean mg mb h₀) (F : Fr h₀ L s.heap m) (N : News h₀ L s.heap ((C2, oC) :: led))
   (hret : ∀ u h' tk', Fr h₀ L h' m → News h₀ L h' ((C2, oC) :: led) → Q (.int 4 u) { s with heap := h', toks := tk' }) :
    wpAny (model PySem.Challenge.rw_pg0251_01.row.prog w) (lawA w L aL cd) (eval (lcElt (lcI w)) (cEI w L aL cd C C' C2)) Q E s := by
  w_on; revert X; k_fill; intro X
  k_dflt (show wpAny _ (callerA.deeper (envOfC _ (Scope.mk _ _ _ _ _) _ _ _)) (eval (.Call _ _ _ _) (compEnvC (Scope.mk _ _ _ _ _) _ _ (compEnvC (Scope.mk _ _ _ _ _) _ _ (compEnvC (Scope.mk _ _ _ _ _) _ _ (envOfC _ (Scope.mk _ _ _ _ _) _ _ _))))) _ _ _)
  (try dsimp only); (try k_fold)
  repeat' (first | ((with_reducible show wpAny _ _ (eval (Expr.Name _ _) _) _ _ _); (k_here; k_dflt (first | (refine' nameX_L ?zqk1 ?zqk2 ?_; (case zqk1 => k_asm); (case zqk2 => assumption)) | (refine' nameX_C ?zqN ?zqc ?zqm ?zqd ?_ ?zqa ?zqb; (case zqa => rfl); (case zqb => rfl); (case zqN => k_asm); (case zqc => rfl); (case zqm => k_mem); (case zqd => assumption); k_whole)))) | ((with_reducible show wpAny _ _ (exec (Stmt.For (Expr.Name _ _) (Expr.Name _ _) _ _ _) _) _ _ _); (k_here; (rename Fr _ _ _ _ => lF'); (with_unfolding_all refine' For_turns lF' ?_; k_whole))) | ((with_reducible show wpAny _ _ (call (Value.builtin "list.insert") _ _) _ _ _); ((with_reducible show wpAny _ _ (call _ (_ ++ _)) _ _ _); dsimp only [List.cons_append, List.nil_append])) | ((with_reducible show wpAny _ _ (subscriptTail _ _ (Value.ref _) _) _ _ _); (k_here; (with_reducible show wpAny _ _ (subscriptTail _ _ (Value.ref _) (Value.int _ _)) _ _ _); k_dflt (refine' sub_any ?zqk1 ?zqk2 ?zqkh ?zqk3 ?zqk4 ?zqk5 ?_; (case zqk1 => k_asm); (case zqk2 => k_mem); (case zqkh => first | exact .inr ⟨_, rfl⟩ | exact .inl ⟨_, rfl⟩); (case zqk3 => decide); (case zqk4 => decide); (case zqk5 => rfl)))) | (k_unfold; (try dsimp only)) | (k_end; wrow_close) | (walk1 <;> (try dsimp only) <;> (try walk_at "mine split")) | (dsimp only; walk1) | (leave1; walk_say "STEP leave1"; try dsimp only) | fail "no step")
  all_goals first
  | exact hret _ _ _ (by k_asm) (by k_asm)
  | skip

set_option maxRecDepth 100000 in
set_option maxHeartbeats 8000000 in
theorem elI_5 (w : World) (mean mg mb) (h₀ : Heap) (L aL : Addr) (cd : Value) (m m₂ : Str → Option Value) (C C' C2 : Addr) (oC : Obj) (t : Tok) (led : List (Addr × Obj))
   (hC : PyProof.Rows.LCg.NsObj oC m₂) (hv : m₂ "sign" = some (.str (Str.ofString "5") t)) (s : Shared) (Q : Value → Shared → Prop) (E : Value → Shared → Prop)
   (B : Below callerA h₀ [] h₀) (X : (Mine.hd.heap_1 w.params).In h₀) (T : Top VW LO mean mg mb h₀) (F : Fr h₀ L s.heap m) (N : News h₀ L s.heap ((C2, oC) :: led))
   (hret : ∀ u h' tk', Fr h₀ L h' m → News h₀ L h' ((C2, oC) :: led) → Q (.int 5 u) { s with heap := h', toks := tk' }) :
    wpAny (model PySem.Challenge.rw_pg0251_01.row.prog w) (lawA w L aL cd) (eval (lcElt (lcI w)) (cEI w L aL cd C C' C2)) Q E s := by
  w_on; revert X; k_fill; intro X
  k_dflt (show wpAny _ (callerA.deeper (envOfC _ (Scope.mk _ _ _ _ _) _ _ _)) (eval (.Call _ _ _ _) (compEnvC (Scope.mk _ _ _ _ _) _ _ (compEnvC (Scope.mk _ _ _ _ _) _ _ (compEnvC (Scope.mk _ _ _ _ _) _ _ (envOfC _ (Scope.mk _ _ _ _ _) _ _ _))))) _ _ _)
  (try dsimp only); (try k_fold)
  repeat' (first | ((with_reducible show wpAny _ _ (eval (Expr.Name _ _) _) _ _ _); (k_here; k_dflt (first | (refine' nameX_L ?zqk1 ?zqk2 ?_; (case zqk1 => k_asm); (case zqk2 => assumption)) | (refine' nameX_C ?zqN ?zqc ?zqm ?zqd ?_ ?zqa ?zqb; (case zqa => rfl); (case zqb => rfl); (case zqN => k_asm); (case zqc => rfl); (case zqm => k_mem); (case zqd => assumption); k_whole)))) | ((with_reducible show wpAny _ _ (exec (Stmt.For (Expr.Name _ _) (Expr.Name _ _) _ _ _) _) _ _ _); (k_here; (rename Fr _ _ _ _ => lF'); (with_unfolding_all refine' For_turns lF' ?_; k_whole))) | ((with_reducible show wpAny _ _ (call (Value.builtin "list.insert") _ _) _ _ _); ((with_reducible show wpAny _ _ (call _ (_ ++ _)) _ _ _); dsimp only [List.cons_append, List.nil_append])) | ((with_reducible show wpAny _ _ (subscriptTail _ _ (Value.ref _) _) _ _ _); (k_here; (with_reducible show wpAny _ _ (subscriptTail _ _ (Value.ref _) (Value.int _ _)) _ _ _); k_dflt (refine' sub_any ?zqk1 ?zqk2 ?zqkh ?zqk3 ?zqk4 ?zqk5 ?_; (case zqk1 => k_asm); (case zqk2 => k_mem); (case zqkh => first | exact .inr ⟨_, rfl⟩ | exact .inl ⟨_, rfl⟩); (case zqk3 => decide); (case zqk4 => decide); (case zqk5 => rfl)))) | (k_unfold; (try dsimp only)) | (k_end; wrow_close) | (walk1 <;> (try dsimp only) <;> (try walk_at "mine split")) | (dsimp only; walk1) | (leave1; walk_say "STEP leave1"; try dsimp only) | fail "no step")
  all_goals first
  | exact hret _ _ _ (by k_asm) (by k_asm)
  | skip

set_option maxRecDepth 100000 in
set_option maxHeartbeats 8000000 in
theorem elI_6 (w : World) (mean mg mb) (h₀ : Heap) (L aL : Addr) (cd : Value) (m m₂ : Str → Option Value) (C C' C2 : Addr) (oC : Obj) (t : Tok) (led : List (Addr × Obj))
   (hC : PyProof.Rows.LCg.NsObj oC m₂) (hv : m₂ "sign" = some (.str (Str.ofString "6") t)) (s : Shared) (Q : Value → Shared → Prop) (E : Value → Shared → Prop)
   (B : Below callerA h₀ [] h₀) (X : (Mine.hd.heap_1 w.params).In h₀) (T : Top VW LO mean mg mb h₀) (F : Fr h₀ L s.heap m) (N : News h₀ L s.heap ((C2, oC) :: led))
   (hret : ∀ u h' tk', Fr h₀ L h' m → News h₀ L h' ((C2, oC) :: led) → Q (.int 6 u) { s with heap := h', toks := tk' }) :
    wpAny (model PySem.Challenge.rw_pg0251_01.row.prog w) (lawA w L aL cd) (eval (lcElt (lcI w)) (cEI w L aL cd C C' C2)) Q E s := by
  w_on; revert X; k_fill; intro X
  k_dflt (show wpAny _ (callerA.deeper (envOfC _ (Scope.mk _ _ _ _ _) _ _ _)) (eval (.Call _ _ _ _) (compEnvC (Scope.mk _ _ _ _ _) _ _ (compEnvC (Scope.mk _ _ _ _ _) _ _ (compEnvC (Scope.mk _ _ _ _ _) _ _ (envOfC _ (Scope.mk _ _ _ _ _) _ _ _))))) _ _ _)
  (try dsimp only); (try k_fold)
  repeat' (first | ((with_reducible show wpAny _ _ (eval (Expr.Name _ _) _) _ _ _); (k_here; k_dflt (first | (refine' nameX_L ?zqk1 ?zqk2 ?_; (case zqk1 => k_asm); (case zqk2 => assumption)) | (refine' nameX_C ?zqN ?zqc ?zqm ?zqd ?_ ?zqa ?zqb; (case zqa => rfl); (case zqb => rfl); (case zqN => k_asm); (case zqc => rfl); (case zqm => k_mem); (case zqd => assumption); k_whole)))) | ((with_reducible show wpAny _ _ (exec (Stmt.For (Expr.Name _ _) (Expr.Name _ _) _ _ _) _) _ _ _); (k_here; (rename Fr _ _ _ _ => lF'); (with_unfolding_all refine' For_turns lF' ?_; k_whole))) | ((with_reducible show wpAny _ _ (call (Value.builtin "list.insert") _ _) _ _ _); ((with_reducible show wpAny _ _ (call _ (_ ++ _)) _ _ _); dsimp only [List.cons_append, List.nil_append])) | ((with_reducible show wpAny _ _ (subscriptTail _ _ (Value.ref _) _) _ _ _); (k_here; (with_reducible show wpAny _ _ (subscriptTail _ _ (Value.ref _) (Value.int _ _)) _ _ _); k_dflt (refine' sub_any ?zqk1 ?zqk2 ?zqkh ?zqk3 ?zqk4 ?zqk5 ?_; (case zqk1 => k_asm); (case zqk2 => k_mem); (case zqkh => first | exact .inr ⟨_, rfl⟩ | exact .inl ⟨_, rfl⟩); (case zqk3 => decide); (case zqk4 => decide); (case zqk5 => rfl)))) | (k_unfold; (try dsimp only)) | (k_end; wrow_close) | (walk1 <;> (try dsimp only) <;> (try walk_at "mine split")) | (dsimp only; walk1) | (leave1; walk_say "STEP leave1"; try dsimp only) | fail "no step")
  all_goals first
  | exact hret _ _ _ (by k_asm) (by k_asm)
  | skip

set_option maxRecDepth 100000 in
set_option maxHeartbeats 8000000 in
theorem elI_7 (w : World) (mean mg mb) (h₀ : Heap) (L aL : Addr) (cd : Value) (m m₂ : Str → Option Value) (C C' C2 : Addr) (oC : Obj) (t : Tok) (led : List (Addr × Obj))
   (hC : PyProof.Rows.LCg.NsObj oC m₂) (hv : m₂ "sign" = some (.str (Str.ofString "7") t)) (s : Shared) (Q : Value → Shared → Prop) (E : Value → Shared → Prop)
   (B : Below callerA h₀ [] h₀) (X : (Mine.hd.heap_1 w.params).In h₀) (T : Top VW LO mean mg mb h₀) (F : Fr h₀ L s.heap m) (N : News h₀ L s.heap ((C2, oC) :: led))
   (hret : ∀ u h' tk', Fr h₀ L h' m → News h₀ L h' ((C2, oC) :: led) → Q (.int 7 u) { s with heap := h', toks := tk' }) :
    wpAny (model PySem.Challenge.rw_pg0251_01.row.prog w) (lawA w L aL cd) (eval (lcElt (lcI w)) (cEI w L aL cd C C' C2)) Q E s := by
  w_on; revert X; k_fill; intro X
  k_dflt (show wpAny _ (callerA.deeper (envOfC _ (Scope.mk _ _ _ _ _) _ _ _)) (eval (.Call _ _ _ _) (compEnvC (Scope.mk _ _ _ _ _) _ _ (compEnvC (Scope.mk _ _ _ _ _) _ _ (compEnvC (Scope.mk _ _ _ _ _) _ _ (envOfC _ (Scope.mk _ _ _ _ _) _ _ _))))) _ _ _)
  (try dsimp only); (try k_fold)
  repeat' (first | ((with_reducible show wpAny _ _ (eval (Expr.Name _ _) _) _ _ _); (k_here; k_dflt (first | (refine' nameX_L ?zqk1 ?zqk2 ?_; (case zqk1 => k_asm); (case zqk2 => assumption)) | (refine' nameX_C ?zqN ?zqc ?zqm ?zqd ?_ ?zqa ?zqb; (case zqa => rfl); (case zqb => rfl); (case zqN => k_asm); (case zqc => rfl); (case zqm => k_mem); (case zqd => assumption); k_whole)))) | ((with_reducible show wpAny _ _ (exec (Stmt.For (Expr.Name _ _) (Expr.Name _ _) _ _ _) _) _ _ _); (k_here; (rename Fr _ _ _ _ => lF'); (with_unfolding_all refine' For_turns lF' ?_; k_whole))) | ((with_reducible show wpAny _ _ (call (Value.builtin "list.insert") _ _) _ _ _); ((with_reducible show wpAny _ _ (call _ (_ ++ _)) _ _ _); dsimp only [List.cons_append, List.nil_append])) | ((with_reducible show wpAny _ _ (subscriptTail _ _ (Value.ref _) _) _ _ _); (k_here; (with_reducible show wpAny _ _ (subscriptTail _ _ (Value.ref _) (Value.int _ _)) _ _ _); k_dflt (refine' sub_any ?zqk1 ?zqk2 ?zqkh ?zqk3 ?zqk4 ?zqk5 ?_; (case zqk1 => k_asm); (case zqk2 => k_mem); (case zqkh => first | exact .inr ⟨_, rfl⟩ | exact .inl ⟨_, rfl⟩); (case zqk3 => decide); (case zqk4 => decide); (case zqk5 => rfl)))) | (k_unfold; (try dsimp only)) | (k_end; wrow_close) | (walk1 <;> (try dsimp only) <;> (try walk_at "mine split")) | (dsimp only; walk1) | (leave1; walk_say "STEP leave1"; try dsimp only) | fail "no step")
  all_goals first
  | exact hret _ _ _ (by k_asm) (by k_asm)
  | skip

set_option maxRecDepth 100000 in
set_option maxHeartbeats 8000000 in
theorem elI_8 (w : World) (mean mg mb) (h₀ : Heap) (L aL : Addr) (cd : Value) (m m₂ : Str → Option Value) (C C' C2 : Addr) (oC : Obj) (t : Tok) (led : List (Addr × Obj))
   (hC : PyProof.Rows.LCg.NsObj oC m₂) (hv : m₂ "sign" = some (.str (Str.ofString "8") t)) (s : Shared) (Q : Value → Shared → Prop) (E : Value → Shared → Prop)
   (B : Below callerA h₀ [] h₀) (X : (Mine.hd.heap_1 w.params).In h₀) (T : Top VW LO mean mg mb h₀) (F : Fr h₀ L s.heap m) (N : News h₀ L s.heap ((C2, oC) :: led))
   (hret : ∀ u h' tk', Fr h₀ L h' m → News h₀ L h' ((C2, oC) :: led) → Q (.int 8 u) { s with heap := h', toks := tk' }) :
    wpAny (model PySem.Challenge.rw_pg0251_01.row.prog w) (lawA w L aL cd) (eval (lcElt (lcI w)) (cEI w L aL cd C C' C2)) Q E s := by
  w_on; revert X; k_fill; intro X
  k_dflt (show wpAny _ (callerA.deeper (envOfC _ (Scope.mk _ _ _ _ _) _ _ _)) (eval (.Call _ _ _ _) (compEnvC (Scope.mk _ _ _ _ _) _ _ (compEnvC (Scope.mk _ _ _ _ _) _ _ (compEnvC (Scope.mk _ _ _ _ _) _ _ (envOfC _ (Scope.mk _ _ _ _ _) _ _ _))))) _ _ _)
  (try dsimp only); (try k_fold)
  repeat' (first | ((with_reducible show wpAny _ _ (eval (Expr.Name _ _) _) _ _ _); (k_here; k_dflt (first | (refine' nameX_L ?zqk1 ?zqk2 ?_; (case zqk1 => k_asm); (case zqk2 => assumption)) | (refine' nameX_C ?zqN ?zqc ?zqm ?zqd ?_ ?zqa ?zqb; (case zqa => rfl); (case zqb => rfl); (case zqN => k_asm); (case zqc => rfl); (case zqm => k_mem); (case zqd => assumption); k_whole)))) | ((with_reducible show wpAny _ _ (exec (Stmt.For (Expr.Name _ _) (Expr.Name _ _) _ _ _) _) _ _ _); (k_here; (rename Fr _ _ _ _ => lF'); (with_unfolding_all refine' For_turns lF' ?_; k_whole))) | ((with_reducible show wpAny _ _ (call (Value.builtin "list.insert") _ _) _ _ _); ((with_reducible show wpAny _ _ (call _ (_ ++ _)) _ _ _); dsimp only [List.cons_append, List.nil_append])) | ((with_reducible show wpAny _ _ (subscriptTail _ _ (Value.ref _) _) _ _ _); (k_here; (with_reducible show wpAny _ _ (subscriptTail _ _ (Value.ref _) (Value.int _ _)) _ _ _); k_dflt (refine' sub_any ?zqk1 ?zqk2 ?zqkh ?zqk3 ?zqk4 ?zqk5 ?_; (case zqk1 => k_asm); (case zqk2 => k_mem); (case zqkh => first | exact .inr ⟨_, rfl⟩ | exact .inl ⟨_, rfl⟩); (case zqk3 => decide); (case zqk4 => decide); (case zqk5 => rfl)))) | (k_unfold; (try dsimp only)) | (k_end; wrow_close) | (walk1 <;> (try dsimp only) <;> (try walk_at "mine split")) | (dsimp only; walk1) | (leave1; walk_say "STEP leave1"; try dsimp only) | fail "no step")
  all_goals first
  | exact hret _ _ _ (by k_asm) (by k_asm)
  | skip

set_option maxRecDepth 100000 in
set_option maxHeartbeats 8000000 in
theorem itI (w : World) (mean mg mb) (h₀ : Heap) (L aL : Addr) (cd : Value) (m m₂ : Str → Option Value) (C C' : Addr) (oC : Obj) (txt : Str) (t : Tok) (led : List (Addr × Obj))
   (hC : PyProof.Rows.LCg.NsObj oC m₂) (hv : m₂ "value" = some (.str txt t)) (s : Shared) (Q : Value → Shared → Prop) (E : Value → Shared → Prop)
   (B : Below callerA h₀ [] h₀) (X : (Mine.hd.heap_1 w.params).In h₀) (T : Top VW LO mean mg mb h₀) (F : Fr h₀ L s.heap m) (N : News h₀ L s.heap ((C', oC) :: led))
   (hret : ∀ u h' tk', Fr h₀ L h' m → News h₀ L h' ((C', oC) :: led) → Q (.str txt u) { s with heap := h', toks := tk' }) :
    wpAny (model PySem.Challenge.rw_pg0251_01.row.prog w) (lawA w L aL cd) (eval (lcIter (lcI w) 0) (cEV w L aL cd C C')) Q E s := by
  w_on; revert X; k_fill; intro X
  k_dflt (show wpAny _ (callerA.deeper (envOfC _ (Scope.mk _ _ _ _ _) _ _ _)) (eval (.Name _ _) (compEnvC (Scope.mk _ _ _ _ _) _ _ (compEnvC (Scope.mk _ _ _ _ _) _ _ (envOfC _ (Scope.mk _ _ _ _ _) _ _ _)))) _ _ _)
  (try dsimp only); (try k_fold)
  repeat' (first | ((with_reducible show wpAny _ _ (eval (Expr.Name _ _) _) _ _ _); (k_here; k_dflt (first | (refine' nameX_L ?zqk1 ?zqk2 ?_; (case zqk1 => k_asm); (case zqk2 => assumption)) | (refine' nameX_C ?zqN ?zqc ?zqm ?zqd ?_ ?zqa ?zqb; (case zqa => rfl); (case zqb => rfl); (case zqN => k_asm); (case zqc => rfl); (case zqm => k_mem); (case zqd => assumption); k_whole)))) | ((with_reducible show wpAny _ _ (exec (Stmt.For (Expr.Name _ _) (Expr.Name _ _) _ _ _) _) _ _ _); (k_here; (rename Fr _ _ _ _ => lF'); (with_unfolding_all refine' For_turns lF' ?_; k_whole))) | ((with_reducible show wpAny _ _ (call (Value.builtin "list.insert") _ _) _ _ _); ((with_reducible show wpAny _ _ (call _ (_ ++ _)) _ _ _); dsimp only [List.cons_append, List.nil_append])) | ((with_reducible show wpAny _ _ (subscriptTail _ _ (Value.ref _) _) _ _ _); (k_here; (with_reducible show wpAny _ _ (subscriptTail _ _ (Value.ref _) (Value.int _ _)) _ _ _); k_dflt (refine' sub_any ?zqk1 ?zqk2 ?zqkh ?zqk3 ?zqk4 ?zqk5 ?_; (case zqk1 => k_asm); (case zqk2 => k_mem); (case zqkh => first | exact .inr ⟨_, rfl⟩ | exact .inl ⟨_, rfl⟩); (case zqk3 => decide); (case zqk4 => decide); (case zqk5 => rfl)))) | (k_unfold; (try dsimp only)) | (k_end; wrow_close) | (walk1 <;> (try dsimp only) <;> (try walk_at "mine split")) | (dsimp only; walk1) | (leave1; walk_say "STEP leave1"; try dsimp only) | fail "no step")
  all_goals first
  | exact hret _ _ _ (by k_asm) (by k_asm)
  | skip

set_option maxRecDepth 100000 in
set_option maxHeartbeats 8000000 in
theorem it4 (w : World) (mean mg mb) (h₀ : Heap) (L aL : Addr) (cd : Value) (m : Str → Option Value)  (led : List (Addr × Obj))
    (s : Shared) (Q : Value → Shared → Prop) (E : Value → Shared → Prop)
   (B : Below callerA h₀ [] h₀) (X : (Mine.hd.heap_1 w.params).In h₀) (T : Top VW LO mean mg mb h₀) (F : Fr h₀ L s.heap m) (N : News h₀ L s.heap led)
   (hret : ∀ u h' tk', Fr h₀ L h' m → News h₀ L h' led → Q (.str (Str.ofString "Abc") u) { s with heap := h', toks := tk' }) :
    wpAny (model PySem.Challenge.rw_pg0251_01.row.prog w) (lawA w L aL cd) (eval (lcIter (lc4 w) 0) (lawE w L aL cd)) Q E s := by
  w_on; revert X; k_fill; intro X
  k_dflt (show wpAny _ (callerA.deeper (envOfC _ (Scope.mk _ _ _ _ _) _ _ _)) (eval (.Constant _ _ _) (envOfC _ (Scope.mk _ _ _ _ _) _ _ _)) _ _ _)
  (try dsimp only); (try k_fold)
  repeat' (first | ((with_reducible show wpAny _ _ (eval (Expr.Name _ _) _) _ _ _); (k_here; k_dflt (first | (refine' nameX_L ?zqk1 ?zqk2 ?_; (case zqk1 => k_asm); (case zqk2 => assumption)) | (refine' nameX_C ?zqN ?zqc ?zqm ?zqd ?_ ?zqa ?zqb; (case zqa => rfl); (case zqb => rfl); (case zqN => k_asm); (case zqc => rfl); (case zqm => k_mem); (case zqd => assumption); k_whole)))) | ((with_reducible show wpAny _ _ (exec (Stmt.For (Expr.Name _ _) (Expr.Name _ _) _ _ _) _) _ _ _); (k_here; (rename Fr _ _ _ _ => lF'); (with_unfolding_all refine' For_turns lF' ?_; k_whole))) | ((with_reducible show wpAny _ _ (call (Value.builtin "list.insert") _ _) _ _ _); ((with_reducible show wpAny _ _ (call _ (_ ++ _)) _ _ _); dsimp only [List.cons_append, List.nil_append])) | ((with_reducible show wpAny _ _ (subscriptTail _ _ (Value.ref _) _) _ _ _); (k_here; (with_reducible show wpAny _ _ (subscriptTail _ _ (Value.ref _) (Value.int _ _)) _ _ _); k_dflt (refine' sub_any ?zqk1 ?zqk2 ?zqkh ?zqk3 ?zqk4 ?zqk5 ?_; (case zqk1 => k_asm); (case zqk2 => k_mem); (case zqkh => first | exact .inr ⟨_, rfl⟩ | exact .inl ⟨_, rfl⟩); (case zqk3 => decide); (case zqk4 => decide); (case zqk5 => rfl)))) | (k_unfold; (try dsimp only)) | (k_end; wrow_close) | (walk1 <;> (try dsimp only) <;> (try walk_at "mine split")) | (dsimp only; walk1) | (leave1; walk_say "STEP leave1"; try dsimp only) | fail "no step")
  all_goals first
  | exact hret _ _ _ (by k_asm) (by k_asm)
  | skip
end
section
open PyProof.Rows.LCg
theorem lcI_eq (w : World) : ∃ p, lcI w = .ListComp (lcElt (lcI w)) [⟨.Name (Str.ofString "sign") p, lcIter (lcI w) 0, [], 0⟩] (lcScope (lcI w)) (lcPos (lcI w)) := ⟨_, rfl⟩
theorem elI_any (w : World) (mean mg mb) (h₀ : Heap) (L aL : Addr) (cd : Value) (m m₂ : Str → Option Value) (C C' C2 : Addr) (oC : Obj) (n : Int) (t : Tok) (led : List (Addr × Obj)) (hn : 0 ≤ n ∧ n ≤ 8)
   (hC : NsObj oC m₂) (hv : m₂ "sign" = some (.str ⟨#[48 + n.toNat]⟩ t)) (s : Shared) (Q : Value → Shared → Prop) (E : Value → Shared → Prop)
   (B : Below callerA h₀ [] h₀) (X : (Mine.hd.heap_1 w.params).In h₀) (T : Top VW LO mean mg mb h₀) (F : Fr h₀ L s.heap m) (N : News h₀ L s.heap ((C2, oC) :: led))
   (hret : ∀ u h' tk', Fr h₀ L h' m → News h₀ L h' ((C2, oC) :: led) → Q (.int n u) { s with heap := h', toks := tk' }) :
    wpAny (model PySem.Challenge.rw_pg0251_01.row.prog w) (lawA w L aL cd) (eval (lcElt (lcI w)) (cEI w L aL cd C C' C2)) Q E s := by
  rcases le8 hn with rfl | rfl | rfl | rfl | rfl | rfl | rfl | rfl | rfl
  · exact elI_0 w mean mg mb h₀ L aL cd m m₂ C C' C2 oC t led hC (hv.trans (by rw [show (⟨#[48 + Int.toNat 0]⟩ : Str) = Str.ofString "0" by decide +kernel])) s Q E B X T F N hret
  · exact elI_1 w mean mg mb h₀ L aL cd m m₂ C C' C2 oC t led hC (hv.trans (by rw [show (⟨#[48 + Int.toNat 1]⟩ : Str) = Str.ofString "1" by decide +kernel])) s Q E B X T F N hret
  · exact elI_2 w mean mg mb h₀ L aL cd m m₂ C C' C2 oC t led hC (hv.trans (by rw [show (⟨#[48 + Int.toNat 2]⟩ : Str) = Str.ofString "2" by decide +kernel])) s Q E B X T F N hret
  · exact elI_3 w mean mg mb h₀ L aL cd m m₂ C C' C2 oC t led hC (hv.trans (by rw [show (⟨#[48 + Int.toNat 3]⟩ : Str) = Str.ofString "3" by decide +kernel])) s Q E B X T F N hret
  · exact elI_4 w mean mg mb h₀ L aL cd m m₂ C C' C2 oC t led hC (hv.trans (by rw [show (⟨#[48 + Int.toNat 4]⟩ : Str) = Str.ofString "4" by decide +kernel])) s Q E B X T F N hret
  · exact elI_5 w mean mg mb h₀ L aL cd m m₂ C C' C2 oC t led hC (hv.trans (by rw [show (⟨#[48 + Int.toNat 5]⟩ : Str) = Str.ofString "5" by decide +kernel])) s Q E B X T F N hret
  · exact elI_6 w mean mg mb h₀ L aL cd m m₂ C C' C2 oC t led hC (hv.trans (by rw [show (⟨#[48 + Int.toNat 6]⟩ : Str) = Str.ofString "6" by decide +kernel])) s Q E B X T F N hret
  · exact elI_7 w mean mg mb h₀ L aL cd m m₂ C C' C2 oC t led hC (hv.trans (by rw [show (⟨#[48 + Int.toNat 7]⟩ : Str) = Str.ofString "7" by decide +kernel])) s Q E B X T F N hret
  · exact elI_8 w mean mg mb h₀ L aL cd m m₂ C C' C2 oC t led hC (hv.trans (by rw [show (⟨#[48 + Int.toNat 8]⟩ : Str) = Str.ofString "8" by decide +kernel])) s Q E B X T F N hret
theorem Tx_ascii {a b c : Int} (h : In8 a b c) : (Tx a b c).cps.all (· < 128) = true := by
  obtain ⟨h1, h2, h3⟩ := h
  unfold Tx
  simp
  omega
set_option maxHeartbeats 8000000 in
/-- the figures of one text -/
theorem intsC (w : World) (mean mg mb) {h₀ : Heap} {L aL C C' : Addr} {cd : Value} {m m₂ : Str → Option Value} {led : List (Addr × Obj)} {oC : Obj} {a b c : Int} {t : Tok} {s : Shared} {Q : Value → Shared → Prop} {E : Value → Shared → Prop}
    (B : Below callerA h₀ [] h₀) (X : (Mine.hd.heap_1 w.params).In h₀) (T : Top VW LO mean mg mb h₀) (F : Fr h₀ L s.heap m) (N : News h₀ L s.heap ((C', oC) :: led)) (hC : NsObj oC m₂) (hv : m₂ "value" = some (.str (Tx a b c) t)) (i8 : In8 a b c)
    (hret : ∀ D u1 u2 u3 h' tk', Fr h₀ L h' m → News h₀ L h' ((D, ({ cls := .type "list", data := .seq #[.int a u1, .int b u2, .int c u3] 3 } : Obj)) :: (C', oC) :: led) → (∀ p ∈ (C', oC) :: led, p.1 ≠ D) → Q (.ref D) { s with heap := h', toks := tk' }) :
    wpAny (model PySem.Challenge.rw_pg0251_01.row.prog w) (lawA w L aL cd) (eval (lcI w) (cEV w L aL cd C C')) Q E s := by
  obtain ⟨px, el⟩ := lcI_eq w
  rw [el]
  refine one_comp (env := cEV w L aL cd C C') (base := (C', oC) :: led) (cl := []) (m := m) (h₀ := h₀) (L := L) (closI w L aL cd C C') (by rw [lcI_names]; decide) (by rfl) (by rw [lcI_names]; decide) (by rw [lcI_names]; decide) ?_ (by intro _; rfl)
  refine itI w mean mg mb h₀ L aL cd m m₂ C C' oC (Tx a b c) t led hC hv s _ _ B X T F N fun u h₁ tk₁ F₁ N₁ => ?_
  refine ⟨3, _, _, fun i y no => no = [] ∧ ∃ u, y = .int ([a, b, c].getD i 0) u, Source.ascii (by rfl) (Tx_ascii i8), Nat.le_of_ble_eq_true rfl, (fun a ha => nomatch ha), F₁, N₁, ?_, ?_⟩
  · intro i v hi hv C2 oC2 m₂ h tk led' E' hC2 hmv F N hb hbC
    have pick : ∃ n u, v = .str ⟨#[48 + n.toNat]⟩ u ∧ (0 ≤ n ∧ n ≤ 8) ∧ [a, b, c].getD i 0 = n := by
      obtain ⟨k, u, hk, rfl⟩ := hv
      rcases lt3 hi with rfl | rfl | rfl
      · have e : 48 + a.toNat = k := Option.some.inj hk
        exact ⟨a, u, by rw [e], i8.1, rfl⟩
      · have e : 48 + b.toNat = k := Option.some.inj hk
        exact ⟨b, u, by rw [e], i8.2.1, rfl⟩
      · have e : 48 + c.toNat = k := Option.some.inj hk
        exact ⟨c, u, by rw [e], i8.2.2, rfl⟩
    obtain ⟨n, u, rfl, hn, e⟩ := pick
    exact elI_any w mean mg mb h₀ L aL cd m m₂ C C' C2 oC2 n u led' hn hC2 hmv { s with heap := h, toks := tk } _ _ B X T F N fun t h' tk' F' N' => ⟨[], h', tk', rfl, F', N', (fun q hq => nomatch hq), rfl, t, by rw [e]⟩
  · intro D ys objs h' tk' F' N' off md
    obtain ⟨ys3, ob3, v3, n3, ey3, eo3, e2, rn3, u3, ry3⟩ := md.inv
    obtain ⟨ys2, ob2, v2, n2, ey2, eo2, e1, rn2, u2, ry2⟩ := e2.inv
    obtain ⟨ys1, ob1, v1, n1, ey1, eo1, e0, rn1, u1, ry1⟩ := e1.inv
    obtain ⟨ey0, eo0⟩ := e0.inv0
    have EY : ys = [.int a u1, .int b u2, .int c u3] := by
      rw [ey3, ey2, ey1, ey0, ry1, ry2, ry3]
      rfl
    have EO : objs = [] := by
      rw [eo3, eo2, eo1, eo0, rn1, rn2, rn3]
      rfl
    rw [EY, EO, List.append_nil] at N'
    rw [EO, List.append_nil] at off
    exact hret D u1 u2 u3 h' tk' F' N' off
end
section
noncomputable def gaO (w : World) : Option Obj := (Mine.hd.heap_1 w.params).lookup 157
noncomputable abbrev gaE (w : World) (L : Addr) : Env := envOfC (Str.ofString "Headers.get_all") (fnScope (gaO w)) L 157 (.ref 156)
noncomputable def lcG (w : World) : Expr := match (fnBody (gaO w)).getD 1 (.Pass default) with
  | .Return (some e) _ => e
  | _ => .Constant .none 0 default
theorem lcG_names (w : World) : (lcScope (lcG w)).names = [(Str.ofString ".0", .local), (Str.ofString "kv", .local), (Str.ofString "name", .free)] := rfl
theorem gaE_names (w : World) : (fnScope (gaO w)).names = [(Str.ofString "self", .local), (Str.ofString "name", .cell)] := rfl
noncomputable abbrev cloG (L : Addr) : List (Str × Addr) := [(Str.ofString "name", L + 1)]
theorem closG (w : World) (L : Addr) : closureFor (lcScope (lcG w)) (gaE w L) = pure (cloG L) := rfl
noncomputable abbrev cEG (w : World) (L C : Addr) : Env := compEnvC (lcScope (lcG w)) (cloG L) C (gaE w L)

set_option maxRecDepth 100000 in
set_option maxHeartbeats 8000000 in
theorem tstG (w : World) (mean mg mb) (dp un : Nat) (gd : Option (List Code)) (cn : Str) (cs : Scope) (aZ : Addr) (ccd : Value) (cl : List (Str × Addr)) (outer : List Env) (base h₀ : Heap) (L₀ L : Addr) (m m₂ : Str → Option Value) (C p : Addr) (oC oN : Obj) (n t nm : Str) (a b tn : Tok) (led : List (Addr × Obj))
   (hk : cs.kind = .function) (hd : dp + 2 * 3 < recursionLimit) (hu : un + 20 * 3 < cLine) (hC : PyProof.Rows.LCg.NsObj oC m₂) (hv : m₂ "kv" = some (.ref p)) (hN : oN.data = .cell (some (.str nm tn))) (mN : (L + 1, oN) ∈ led) (mp : (p, ({ cls := .type "tuple", data := .seq #[.str n a, .str t b] 0 } : Obj)) ∈ led) (hln : n.length ≤ 1) (s : Shared) (Q : Bool → Shared → Prop) (E : Value → Shared → Prop)
   (B : Below (ktrTop dp un gd cn cs L₀ aZ ccd cl outer) base (envX cn cs L₀ aZ ccd cl :: outer) h₀) (X : (Mine.hd.heap_1 w.params).In h₀) (T : Top VW LO mean mg mb h₀) (F : Fr h₀ L s.heap m) (N : News h₀ L s.heap ((C, oC) :: led))
   (hret : ∀ h' tk', Fr h₀ L h' m → News h₀ L h' ((C, oC) :: led) → Q (Txt.lower n == nm) { s with heap := h', toks := tk' }) :
    wpAny (model PySem.Challenge.rw_pg0251_01.row.prog w) ((ktrTop dp un gd cn cs L₀ aZ ccd cl outer).deeper (gaE w L)) (isTrue (lcIf (lcG w) 0) (cEG w L C) (eval (lcIf (lcG w) 0) (cEG w L C))) Q E s := by
  w_on; revert X; k_fill; intro X
  k_dflt (show wpAny _ ((ktrTop _ _ _ _ _ _ _ _ _ _).deeper (envOfC _ (Scope.mk _ _ _ _ _) _ _ _)) (isTrue (.Compare _ _ _ _) _ (eval (.Compare _ _ _ _) (compEnvC (Scope.mk _ _ _ _ _) _ _ (envOfC _ (Scope.mk _ _ _ _ _) _ _ _)))) _ _ _)
  (try dsimp only); (try k_fold)
  repeat' (first | ((with_reducible show wpAny _ _ (eval (Expr.Name _ _) _) _ _ _); (k_here; k_dflt (first | (refine' nameX_L ?zqk1 ?zqk2 ?_; (case zqk1 => k_asm); (case zqk2 => assumption)) | (refine' nameX_C ?zqN ?zqc ?zqm ?zqd ?_ ?zqa ?zqb; (case zqa => rfl); (case zqb => rfl); (case zqN => k_asm); (case zqc => rfl); (case zqm => k_mem); (case zqd => assumption); k_whole)))) | ((with_reducible show wpAny _ _ (exec (Stmt.For (Expr.Name _ _) (Expr.Name _ _) _ _ _) _) _ _ _); (k_here; (rename Fr _ _ _ _ => lF'); (with_unfolding_all refine' For_turns lF' ?_; k_whole))) | ((with_reducible show wpAny _ _ (call (Value.builtin "list.insert") _ _) _ _ _); ((with_reducible show wpAny _ _ (call _ (_ ++ _)) _ _ _); dsimp only [List.cons_append, List.nil_append])) | ((with_reducible show wpAny _ _ (subscriptTail _ _ (Value.ref _) _) _ _ _); (k_here; (with_reducible show wpAny _ _ (subscriptTail _ _ (Value.ref _) (Value.int _ _)) _ _ _); k_dflt (refine' sub_any ?zqk1 ?zqk2 ?zqkh ?zqk3 ?zqk4 ?zqk5 ?_; (case zqk1 => k_asm); (case zqk2 => k_mem); (case zqkh => first | exact .inr ⟨_, rfl⟩ | exact .inl ⟨_, rfl⟩); (case zqk3 => decide); (case zqk4 => decide); (case zqk5 => rfl)))) | (k_unfold; (try dsimp only)) | (k_end; wrow_close) | (walk1 <;> (try dsimp only) <;> (try walk_at "mine split")) | (dsimp only; walk1) | (leave1; walk_say "STEP leave1"; try dsimp only) | fail "no step")
  all_goals first
  | exact hret _ _ (by k_asm) (by k_asm)
  | skip

set_option maxRecDepth 100000 in
set_option maxHeartbeats 8000000 in
theorem eltG (w : World) (mean mg mb) (dp un : Nat) (gd : Option (List Code)) (cn : Str) (cs : Scope) (aZ : Addr) (ccd : Value) (cl : List (Str × Addr)) (outer : List Env) (base h₀ : Heap) (L₀ L : Addr) (m m₂ : Str → Option Value) (C p : Addr) (oC oN : Obj) (n t nm : Str) (a b tn : Tok) (led : List (Addr × Obj))
   (hk : cs.kind = .function) (hd : dp + 2 * 3 < recursionLimit) (hu : un + 20 * 3 < cLine) (hC : PyProof.Rows.LCg.NsObj oC m₂) (hv : m₂ "kv" = some (.ref p)) (hN : oN.data = .cell (some (.str nm tn))) (mN : (L + 1, oN) ∈ led) (mp : (p, ({ cls := .type "tuple", data := .seq #[.str n a, .str t b] 0 } : Obj)) ∈ led) (hln : n.length ≤ 1) (s : Shared) (Q : Value → Shared → Prop) (E : Value → Shared → Prop)
   (B : Below (ktrTop dp un gd cn cs L₀ aZ ccd cl outer) base (envX cn cs L₀ aZ ccd cl :: outer) h₀) (X : (Mine.hd.heap_1 w.params).In h₀) (T : Top VW LO mean mg mb h₀) (F : Fr h₀ L s.heap m) (N : News h₀ L s.heap ((C, oC) :: led))
   (hret : ∀ u h' tk', Fr h₀ L h' m → News h₀ L h' ((C, oC) :: led) → Q (.str t u) { s with heap := h', toks := tk' }) :
    wpAny (model PySem.Challenge.rw_pg0251_01.row.prog w) ((ktrTop dp un gd cn cs L₀ aZ ccd cl outer).deeper (gaE w L)) (eval (lcElt (lcG w)) (cEG w L C)) Q E s := by
  w_on; revert X; k_fill; intro X
  k_dflt (show wpAny _ ((ktrTop _ _ _ _ _ _ _ _ _ _).deeper (envOfC _ (Scope.mk _ _ _ _ _) _ _ _)) (eval (.Subscript _ _ _) (compEnvC (Scope.mk _ _ _ _ _) _ _ (envOfC _ (Scope.mk _ _ _ _ _) _ _ _))) _ _ _)
  (try dsimp only); (try k_fold)
  repeat' (first | ((with_reducible show wpAny _ _ (eval (Expr.Name _ _) _) _ _ _); (k_here; k_dflt (first | (refine' nameX_L ?zqk1 ?zqk2 ?_; (case zqk1 => k_asm); (case zqk2 => assumption)) | (refine' nameX_C ?zqN ?zqc ?zqm ?zqd ?_ ?zqa ?zqb; (case zqa => rfl); (case zqb => rfl); (case zqN => k_asm); (case zqc => rfl); (case zqm => k_mem); (case zqd => assumption); k_whole)))) | ((with_reducible show wpAny _ _ (exec (Stmt.For (Expr.Name _ _) (Expr.Name _ _) _ _ _) _) _ _ _); (k_here; (rename Fr _ _ _ _ => lF'); (with_unfolding_all refine' For_turns lF' ?_; k_whole))) | ((with_reducible show wpAny _ _ (call (Value.builtin "list.insert") _ _) _ _ _); ((with_reducible show wpAny _ _ (call _ (_ ++ _)) _ _ _); dsimp only [List.cons_append, List.nil_append])) | ((with_reducible show wpAny _ _ (subscriptTail _ _ (Value.ref _) _) _ _ _); (k_here; (with_reducible show wpAny _ _ (subscriptTail _ _ (Value.ref _) (Value.int _ _)) _ _ _); k_dflt (refine' sub_any ?zqk1 ?zqk2 ?zqkh ?zqk3 ?zqk4 ?zqk5 ?_; (case zqk1 => k_asm); (case zqk2 => k_mem); (case zqkh => first | exact .inr ⟨_, rfl⟩ | exact .inl ⟨_, rfl⟩); (case zqk3 => decide); (case zqk4 => decide); (case zqk5 => rfl)))) | (k_unfold; (try dsimp only)) | (k_end; wrow_close) | (walk1 <;> (try dsimp only) <;> (try walk_at "mine split")) | (dsimp only; walk1) | (leave1; walk_say "STEP leave1"; try dsimp only) | fail "no step")
  all_goals first
  | exact hret _ _ _ (by k_asm) (by k_asm)
  | skip
end
section
open PyProof.Rows.LCg
/-- what a comprehension with a test has made -/
inductive MadeF (b : Nat → Bool) (P : Nat → Value → List (Addr × Obj) → Prop) : Nat → List Value → List (Addr × Obj) → Prop
  | nil : MadeF b P 0 [] []
  | snoc {i : Nat} {ys : List Value} {objs no : List (Addr × Obj)} {y : Value} : MadeF b P i ys objs → b i = true → P i y no → MadeF b P (i + 1) (ys ++ [y]) (objs ++ no)
  | skip {i : Nat} {ys : List Value} {objs : List (Addr × Obj)} : MadeF b P i ys objs → b i = false → MadeF b P (i + 1) ys objs
theorem MadeF.len {b : Nat → Bool} {P : Nat → Value → List (Addr × Obj) → Prop} {i : Nat} {ys : List Value} {objs : List (Addr × Obj)} (h : MadeF b P i ys objs) : ys.length ≤ i := by
  induction h with
  | nil => exact Nat.le_refl _
  | snoc _ _ _ ih => rw [List.length_append, List.length_singleton]; exact Nat.succ_le_succ ih
  | skip _ _ ih => exact Nat.le_succ_of_le ih
theorem MadeF.snoc' {b : Nat → Bool} {P : Nat → Value → List (Addr × Obj) → Prop} {i : Nat} {ys : List Value} {objs no : List (Addr × Obj)} {y : Value} (h : MadeF b P i ys objs) (hb : b i = true) (p : P i y no) : MadeF b P (i + 1) (ys ++ [y]) (objs ++ no) := .snoc h hb p
noncomputable def TestTurn (prog : Program) (w : World) (A : Around) (h₀ : Heap) (L : Addr) (m : Str → Option Value) (base : List (Addr × Obj)) (ct : Expr) (x : Str) (scope : Scope) (cl : List (Str × Addr)) (env : Env) (s : Shared) (b : Bool) (v : Value) : Prop :=
  ∀ C oC m₂ h tk led (E' : Value → Shared → Prop), NsObj oC m₂ → m₂ x = some v → Fr h₀ L h m → News h₀ L h ((C, oC) :: led) → (∀ p ∈ base, p ∈ led) → (∀ p ∈ base, p.1 ≠ C) →
    wpAny (model prog w) A (isTrue ct (compEnvC scope cl C env) (eval ct (compEnvC scope cl C env))) (fun ok s' => ok = b ∧ ∃ h' tk', s' = { s with heap := h', toks := tk' } ∧ Fr h₀ L h' m ∧ News h₀ L h' ((C, oC) :: led)) E' { s with heap := h, toks := tk }
section
variable {prog : Program} {w : World} {A : Around} {s : Shared} {E : Value → Shared → Prop} {env : Env} {elt iter ct : Expr} {x : Str} {px : Pos} {scope : Scope} {cl : List (Str × Addr)} {pos : Pos} {h₀ : Heap} {L : Addr} {m : Str → Option Value}
/-- a comprehension of one clause, its head made already -/
theorem flt_start {h h₂ : Heap} {o : Obj} {tk : Nat} {base : List (Addr × Obj)} {C D : Addr} {n : Nat} {P0 : Nat → Value → Prop} {fpx : List Addr} {St : Nat → Heap → Prop} {P : Nat → Value → List (Addr × Obj) → Prop} {R : Result → Shared → Prop} (hsz : n ≤ sizeLine)
    (F : Fr h₀ L h₂ m) (N : News h₀ L h₂ base) (hfx : ∀ a ∈ fpx, (∃ o, h₂.get? a = some o) ∧ a ≠ L) (W : Walks prog w A h₂.objs.size (h₂.objs.size :: fpx) [h₂.objs.size] n P0 St) (hlive : ∀ i h', St i h' → ∃ o, h'.get? h₂.objs.size = some o) (st0 : St 0 (h₂.push o))
    (hkind : scope.kind = .function) (hx : scope.names.lookup x = some .local)
    (hDe : D = (h₂.push o).objs.size) (hCe : C = (h₂.push o).objs.size + 1) (up : ∀ b o', (h₂.push o).get? b = some o' → h.get? b = some o') (hn : h.Ns C (fun _ => none)) (hD : h.get? D = some (lst []))
    (b : Nat → Bool) (test : ∀ i v, i < n → P0 i v → TestTurn prog w A h₀ L m base ct x scope cl env s (b i) v) (turn : ∀ i v, i < n → P0 i v → EltTurn prog w A h₀ L m base elt x scope cl env s (P i) v)
    (done : ∀ h' tk' m' ys objs, h'.Ns C m' → C ≠ D → C ≠ L → h₀.get? C = none → D ≠ L → h₀.get? D = none → Fr h₀ L h' m → News h₀ L h' ((D, lst ys) :: (base ++ objs)) → (∀ p ∈ (D, lst ys) :: (base ++ objs), p.1 ≠ C) → (∀ p ∈ base ++ objs, p.1 ≠ D) → MadeF b P n ys objs → R (.ok .next) { s with heap := h', toks := tk' }) :
    codeAny (model prog w) A (.compStart (.ListComp elt [⟨.Name x px, iter, [ct], 0⟩] scope pos) 0 (.ref h₂.objs.size) (.ref D) (compEnvC scope cl C env)) R { s with heap := h, toks := tk } := by
  have sz2 : (h₂.push o).objs.size = h₂.objs.size + 1 := Heap.size_push ..
  rw [sz2] at hDe hCe
  have hg : [(⟨.Name x px, iter, [ct], 0⟩ : Comprehension)][0]? = some ⟨.Name x px, iter, [ct], 0⟩ := rfl
  have hID : h₂.objs.size ≠ D := hDe ▸ Nat.ne_of_lt (Nat.lt_succ_self _)
  have hIC : h₂.objs.size ≠ C := hCe ▸ Nat.ne_of_lt (Nat.lt_succ_of_lt (Nat.lt_succ_self _))
  have hCD : C ≠ D := by rw [hCe, hDe]; exact Nat.ne_of_gt (Nat.lt_succ_self _)
  have lt1 : ∀ b o, h₂.get? b = some o → b ≠ h₂.objs.size ∧ b ≠ D ∧ b ≠ C := fun b o e => by
    have h1 := Heap.lt_size e
    exact ⟨Nat.ne_of_lt h1, hDe ▸ Nat.ne_of_lt (Nat.lt_succ_of_lt h1), hCe ▸ Nat.ne_of_lt (Nat.lt_succ_of_lt (Nat.lt_succ_of_lt h1))⟩
  have n1 : ∀ a, h₂.objs.size ≤ a → h₂.get? a = none := fun a ha => by
    cases e : h₂.get? a with
    | none => rfl
    | some o => exact absurd (Heap.lt_size e) (Nat.not_lt.mpr ha)
  have up1 : ∀ b o, h₂.get? b = some o → h.get? b = some o := fun b o e => up _ _ (Heap.get?_push_of_some _ e)
  have hLX : L ∉ [h₂.objs.size, C, D] := by
    obtain ⟨o, _, _, e, _⟩ := id F.ns
    have := lt1 _ _ e
    intro ha
    rcases List.mem_cons.mp ha with ha | ha
    · exact this.1 ha
    rcases List.mem_cons.mp ha with ha | ha
    · exact this.2.2 ha
    · exact this.2.1 (List.mem_singleton.mp ha)
  have hX : ∀ a ∈ [h₂.objs.size, C, D], h₀.get? a = none := fun a ha => new_none F (n1 a (by
    rcases List.mem_cons.mp ha with rfl | ha
    · exact Nat.le_refl _
    rcases List.mem_cons.mp ha with rfl | ha
    · rw [hCe]; exact Nat.le_succ_of_le (Nat.le_succ _)
    · rw [List.mem_singleton.mp ha, hDe]; exact Nat.le_succ _))
  have st1 : St 0 h := W.frame _ _ _ st0 fun b _ o e => up b o e
  have c0 : GInv h₀ L m base [h₂.objs.size, C, D] [] h := by
    refine ⟨F.keeps up1, fun p hp => ?_, fun p hp ha => ?_⟩
    · rw [List.append_nil] at hp; exact ⟨up1 _ _ (N p hp).1, (N p hp).2⟩
    · rw [List.append_nil] at hp
      have := lt1 _ _ (N p hp).1
      rcases List.mem_cons.mp ha with ha | ha
      · exact this.1 ha
      rcases List.mem_cons.mp ha with ha | ha
      · exact this.2.2 ha
      · exact this.2.1 (List.mem_singleton.mp ha)
  have fpX : ∀ a ∈ fpx, a ≠ C ∧ a ≠ D := fun a ha => by
    obtain ⟨⟨o, e⟩, _⟩ := hfx a ha
    exact ⟨(lt1 _ _ e).2.2, (lt1 _ _ e).2.1⟩
  generalize hX0 : [h₂.objs.size, C, D] = X at hLX hX c0
  have hIX : h₂.objs.size ∈ X := hX0 ▸ .head _
  have hCX : C ∈ X := hX0 ▸ .tail _ (.head _)
  have hDX : D ∈ X := hX0 ▸ .tail _ (.tail _ (.head _))
  have hX3 : ∀ a ∈ X, a = h₂.objs.size ∨ a = C ∨ a = D := fun a ha => by
    rw [← hX0] at ha
    rcases List.mem_cons.mp ha with ha | ha
    · exact .inl ha
    rcases List.mem_cons.mp ha with ha | ha
    · exact .inr (.inl ha)
    · exact .inr (.inr (List.mem_singleton.mp ha))
  have hIL : h₂.objs.size ≠ L := fun e => hLX (e ▸ hIX)
  have hCL : C ≠ L := fun e => hLX (e ▸ hCX)
  have hDL : D ≠ L := fun e => hLX (e ▸ hDX)
  have loop : codeAny (model prog w) A (.compLoop (.ListComp elt [⟨.Name x px, iter, [ct], 0⟩] scope pos) 0 (.ref h₂.objs.size) (.ref D) (compEnvC scope cl C env)) R { s with heap := h, toks := tk } := by
    refine kn_last (s := { s with heap := h, toks := tk }) hg rfl W (lookup_relabel_local hx) (by simp [compEnvC, relabel, hkind]) (Ne.symm hCD) ?hDf ?hCf (Lx := L) ?hLf (Ne.symm hCL) (Ne.symm hDL)
      (fun i m₃ ys h => ∃ objs, GInv h₀ L m base X objs h ∧ MadeF b P i ys objs) ?hfr ?hlen ?step st1 hn hD ⟨[], c0, .nil⟩ ?done
    case hDf => intro e; rcases List.mem_cons.mp e with e | e; exact hID e.symm; exact (fpX _ e).2 rfl
    case hCf => intro e; rcases List.mem_cons.mp e with e | e; exact hIC e.symm; exact (fpX _ e).1 rfl
    case hLf => intro e; rcases List.mem_cons.mp e with e | e; exact hIL e.symm; exact (hfx _ e).2 rfl
    case hfr =>
      rintro i m₃ ys h h' ⟨objs, c, md⟩ hk
      exact ⟨objs, c.keep hLX hX fun b o hb e => hk b o (fun q => hb (q ▸ hCX)) (fun q => hb (q ▸ hDX)) (fun q => hb ((List.mem_singleton.mp q) ▸ hIX)) e, md⟩
    case hlen =>
      rintro i m₃ ys h ⟨objs, _, md⟩ hi
      exact Nat.le_trans md.len (Nat.le_trans (Nat.le_of_lt hi) hsz)
    case done =>
      rintro h' tk' m₃ ys hn' hD' ⟨objs, ⟨F', N', off'⟩, md⟩ hk
      refine done h' tk' m₃ ys objs hn' hCD hCL (hX _ hCX) hDL (hX _ hDX) F' (fun p hp => ?_) (fun p hp => ?_) (fun p hp q => off' p hp (q ▸ hDX)) md
      · rcases List.mem_cons.mp hp with rfl | hp
        · exact ⟨hD', hDL, hX _ hDX⟩
        · exact N' p hp
      · rcases List.mem_cons.mp hp with rfl | hp
        · exact Ne.symm hCD
        · exact fun q => off' p hp (q ▸ hCX)
    case step =>
      rintro i v h' tk' m₃ ys E' hi hv hn' hD' hst ⟨objs, c, md⟩ hk
      obtain ⟨oC, heC, hoC⟩ := ns_obj hn'
      have live : ∀ a ∈ X, ∃ o, h'.get? a = some o := fun a ha => by
        rcases hX3 a ha with rfl | rfl | rfl
        · exact hlive _ _ hst
        · exact ⟨_, heC⟩
        · exact ⟨_, hD'⟩
      have bs := every_of c.2.1
      have NC : News h₀ L h' ((C, oC) :: every h₀ h' L) := fun p hp => by
        rcases List.mem_cons.mp hp with rfl | hp
        · exact ⟨heC, hCL, hX _ hCX⟩
        · exact every_news p hp
      refine wpAny_tests_one (wpAny_mono (test i v hi hv C oC _ h' tk' (every h₀ h' L) _ hoC (by simp) c.1 NC (fun p hp => bs p (List.mem_append_left _ hp)) (fun p hp q => c.2.2 p (List.mem_append_left _ hp) (q ▸ hCX))) (fun ok s₃ h₃' => ?_) fun _ _ e => e)
      obtain ⟨rfl, h₃, tk₃, rfl, F₃, N₃⟩ := h₃'
      have K3 := every_kept c.1 F₃ N₃ fun p hp => .tail _ hp
      have N3' : News h₀ L h₃ (base ++ objs) := fun p hp => ⟨K3 _ _ (c.2.1 p hp).2.1 (c.2.1 p hp).1, (c.2.1 p hp).2⟩
      refine ⟨h₃, tk₃, rfl, K3, ?_⟩
      cases hb : b i with
      | false =>
        rw [if_neg (by decide)]
        exact ⟨objs, ⟨F₃, N3', c.2.2⟩, md.skip hb⟩
      | true =>
        rw [if_pos rfl]
        have bs3 := every_of N3'
        refine wpAny_mono (turn i v hi hv C oC _ h₃ tk₃ (every h₀ h₃ L) _ hoC (by simp) F₃ (fun p hp => ?_) (fun p hp => bs3 p (List.mem_append_left _ hp)) (fun p hp q => c.2.2 p (List.mem_append_left _ hp) (q ▸ hCX))) (fun y s₄ h₄ => ?_) fun _ _ e => e
        · rcases List.mem_cons.mp hp with rfl | hp
          · exact ⟨K3 _ _ hCL heC, hCL, hX _ hCX⟩
          · exact every_news p hp
        · obtain ⟨no, h₄, tk₄, rfl, F₄, N₄, ne, hP⟩ := h₄
          have K := every_kept F₃ F₄ N₄ fun p hp => List.mem_append_right _ (.tail _ hp)
          refine ⟨h₄, tk₄, rfl, K, objs ++ no, ⟨F₄, fun p hp => ?_, fun p hp ha => ?_⟩, md.snoc hb hP⟩
          · rw [← List.append_assoc] at hp
            rcases List.mem_append.mp hp with hp | hp
            · exact ⟨K _ _ (N3' p hp).2.1 (N3' p hp).1, (N3' p hp).2⟩
            · exact N₄ p (List.mem_append_left _ hp)
          · rw [← List.append_assoc] at hp
            rcases List.mem_append.mp hp with hp | hp
            · exact c.2.2 p hp ha
            · obtain ⟨o, e⟩ := live _ ha
              exact ne p hp (p.1, o) (.tail _ (every_mem (K3 _ _ (fun q => hLX (q ▸ ha)) e) (hX _ ha) fun q => hLX (q ▸ ha))) rfl
  exact kn_start hg loop (W.self 0 _ _ _ st1 loop)
/-- a comprehension of one clause as a value -/
theorem flt_comp {base : List (Addr × Obj)} {Q : Value → Shared → Prop}
    (hclos : closureFor scope env = pure cl) (hcell : ∀ y ∈ scope.names, y.2 ≠ .cell) (hkind : scope.kind = .function) (hnames : ∀ y ∈ scope.names, y.2 = .local → scope.names.lookup y.1 = some .local) (hx : scope.names.lookup x = some .local)
    (hi : wpAny (model prog w) A (eval iter env) (fun xv s₁ => ∃ n P0 fpx P b, Source prog w A xv s₁.heap n P0 fpx ∧ n ≤ sizeLine ∧ (∀ a ∈ fpx, a ≠ L) ∧ Fr h₀ L s₁.heap m ∧ News h₀ L s₁.heap base ∧
      (∀ i v, i < n → P0 i v → TestTurn prog w A h₀ L m base ct x scope cl env s₁ (b i) v) ∧ (∀ i v, i < n → P0 i v → EltTurn prog w A h₀ L m base elt x scope cl env s₁ (P i) v) ∧
      ∀ D ys objs h' tk', Fr h₀ L h' m → News h₀ L h' ((D, lst ys) :: (base ++ objs)) → (∀ p ∈ base ++ objs, p.1 ≠ D) → MadeF b P n ys objs → Q (.ref D) { s₁ with heap := h', toks := tk' }) E s)
    (hs : ∀ x, foldedSetIterable iter env x = pure x := by intro _; rfl) :
    wpAny (model prog w) A (eval (.ListComp elt [⟨.Name x px, iter, [ct], 0⟩] scope pos) env) Q E s := by
  refine kn_top hclos hcell hkind hnames (wpAny_mono hi (fun xv s₁ h₁ => ?_) fun _ _ e => e) hs
  obtain ⟨n, P0, fpx, P, b, ⟨src1, src2⟩, hsz, hfL, F, N, test, turn, fin⟩ := h₁
  refine src2 s₁ _ _ rfl fun o St W hlive st0 => ?_
  intro h tk C D hDe hCe up hn hD
  refine flt_start (s := s₁) hsz F N (fun a ha => ⟨src1 a ha, hfL a ha⟩) W hlive st0 hkind hx hDe hCe up hn hD b test turn fun h' tk' m' ys objs hn' hCD hCL hC₀ hDL hD₀ F' N' offC offD md => ?_
  refine ⟨_, m', rfl, hn', fun h'' hs'' => fin D ys objs h'' tk' ⟨F'.ns.at' fun o e => hs''.extBut _ _ (Ne.symm hCL) e, fun b o e => hs''.extBut b o (fun q => by rw [q, hC₀] at e; cases e) (F'.keep b o e), F'.above⟩ (fun p hp => ⟨hs''.extBut _ _ (offC p hp) (N' p hp).1, (N' p hp).2⟩) offD md⟩
end
end
section

set_option maxRecDepth 100000 in
set_option maxHeartbeats 8000000 in
theorem itG (w : World) (mean mg mb) (dp un : Nat) (gd : Option (List Code)) (cn : Str) (cs : Scope) (aZ : Addr) (ccd : Value) (cl : List (Str × Addr)) (outer : List Env) (base h₀ : Heap) (L₀ L : Addr) (m : Str → Option Value) (x d l : Addr) (kh : Int) (kt : Tok) (led : List (Addr × Obj))
   (hk : cs.kind = .function) (hd : dp + 2 * 3 < recursionLimit) (hu : un + 20 * 3 < cLine) (hs : m "self" = some (.ref x)) (mx : (x, instObj 218 d) ∈ led) (md : (d, dictOf [⟨kh, .str (Str.ofString "_headers") kt, .ref l⟩] 1) ∈ led) (s : Shared) (Q : Value → Shared → Prop) (E : Value → Shared → Prop)
   (B : Below (ktrTop dp un gd cn cs L₀ aZ ccd cl outer) base (envX cn cs L₀ aZ ccd cl :: outer) h₀) (X : (Mine.hd.heap_1 w.params).In h₀) (T : Top VW LO mean mg mb h₀) (F : Fr h₀ L s.heap m) (N : News h₀ L s.heap led)
   (hret : ∀ h' tk', Fr h₀ L h' m → News h₀ L h' led → Q (.ref l) { s with heap := h', toks := tk' }) :
    wpAny (model PySem.Challenge.rw_pg0251_01.row.prog w) ((ktrTop dp un gd cn cs L₀ aZ ccd cl outer).deeper (gaE w L)) (eval (lcIter (lcG w) 0) (gaE w L)) Q E s := by
  w_on; revert X; k_fill; intro X
  k_dflt (show wpAny _ ((ktrTop _ _ _ _ _ _ _ _ _ _).deeper (envOfC _ (Scope.mk _ _ _ _ _) _ _ _)) (eval (.Attribute _ _ _) (envOfC _ (Scope.mk _ _ _ _ _) _ _ _)) _ _ _)
  (try dsimp only); (try k_fold)
  repeat' (first | ((with_reducible show wpAny _ _ (eval (Expr.Name _ _) _) _ _ _); (k_here; k_dflt (first | (refine' nameX_L ?zqk1 ?zqk2 ?_; (case zqk1 => k_asm); (case zqk2 => assumption)) | (refine' nameX_C ?zqN ?zqc ?zqm ?zqd ?_ ?zqa ?zqb; (case zqa => rfl); (case zqb => rfl); (case zqN => k_asm); (case zqc => rfl); (case zqm => k_mem); (case zqd => assumption); k_whole)))) | ((with_reducible show wpAny _ _ (exec (Stmt.For (Expr.Name _ _) (Expr.Name _ _) _ _ _) _) _ _ _); (k_here; (rename Fr _ _ _ _ => lF'); (with_unfolding_all refine' For_turns lF' ?_; k_whole))) | ((with_reducible show wpAny _ _ (call (Value.builtin "list.insert") _ _) _ _ _); ((with_reducible show wpAny _ _ (call _ (_ ++ _)) _ _ _); dsimp only [List.cons_append, List.nil_append])) | ((with_reducible show wpAny _ _ (subscriptTail _ _ (Value.ref _) _) _ _ _); (k_here; (with_reducible show wpAny _ _ (subscriptTail _ _ (Value.ref _) (Value.int _ _)) _ _ _); k_dflt (refine' sub_any ?zqk1 ?zqk2 ?zqkh ?zqk3 ?zqk4 ?zqk5 ?_; (case zqk1 => k_asm); (case zqk2 => k_mem); (case zqkh => first | exact .inr ⟨_, rfl⟩ | exact .inl ⟨_, rfl⟩); (case zqk3 => decide); (case zqk4 => decide); (case zqk5 => rfl)))) | (k_unfold; (try dsimp only)) | (k_end; wrow_close) | (walk1 <;> (try dsimp only) <;> (try walk_at "mine split")) | (dsimp only; walk1) | (leave1; walk_say "STEP leave1"; try dsimp only) | fail "no step")
  all_goals first
  | exact hret _ _ (by k_asm) (by k_asm)
  | skip
end
section
open PyProof.Rows.LCg
theorem MadeF.invT {b : Nat → Bool} {P : Nat → Value → List (Addr × Obj) → Prop} {i : Nat} {ys : List Value} {objs : List (Addr × Obj)} (h : MadeF b P (i + 1) ys objs) (hb : b i = true) : ∃ ys' objs' y no, ys = ys' ++ [y] ∧ objs = objs' ++ no ∧ MadeF b P i ys' objs' ∧ P i y no := by
  cases h with
  | snoc h _ p => exact ⟨_, _, _, _, rfl, rfl, h, p⟩
  | skip _ e => rw [hb] at e; cases e
theorem MadeF.invF {b : Nat → Bool} {P : Nat → Value → List (Addr × Obj) → Prop} {i : Nat} {ys : List Value} {objs : List (Addr × Obj)} (h : MadeF b P (i + 1) ys objs) (hb : b i = false) : MadeF b P i ys objs := by
  cases h with
  | snoc _ e _ => rw [hb] at e; cases e
  | skip h _ => exact h
theorem MadeF.inv0 {b : Nat → Bool} {P : Nat → Value → List (Addr × Obj) → Prop} {ys : List Value} {objs : List (Addr × Obj)} (h : MadeF b P 0 ys objs) : ys = [] ∧ objs = [] := by
  cases h with
  | nil => exact ⟨rfl, rfl⟩
theorem lt9 {i : Nat} (h : i < 9) : i = 0 ∨ i = 1 ∨ i = 2 ∨ i = 3 ∨ i = 4 ∨ i = 5 ∨ i = 6 ∨ i = 7 ∨ i = 8 := by (first | lia | omega)
theorem lcG_eq (w : World) : ∃ p, lcG w = .ListComp (lcElt (lcG w)) [⟨.Name (Str.ofString "kv") p, lcIter (lcG w) 0, [lcIf (lcG w) 0], 0⟩] (lcScope (lcG w)) (lcPos (lcG w)) := ⟨_, rfl⟩
set_option maxHeartbeats 8000000 in
theorem selG_a (w : World) (mean mg mb) {dp un : Nat} {gd : Option (List Code)} {cn : Str} {cs : Scope} {aZ : Addr} {ccd : Value} {cl : List (Str × Addr)} {outer : List Env} {base h₀ : Heap} {L₀ L : Addr} {m : Str → Option Value} {led : List (Addr × Obj)} {x d l : Addr} {nl : Nat} {p1 p2 p3 p4 p5 p6 p7 p8 p9 : Addr} {t1 t2 t3 t4 t5 t6 t7 t8 t9 : Str} {a1 b1 a2 b2 a3 b3 a4 b4 a5 b5 a6 b6 a7 b7 a8 b8 a9 b9 : Tok} {kh : Int} {kt tn : Tok} {oN : Obj} {s : Shared} {Q : Value → Shared → Prop} {E : Value → Shared → Prop}
    (hk : cs.kind = .function) (hd : dp + 2 * 3 < recursionLimit) (hu : un + 20 * 3 < cLine) (B : Below (ktrTop dp un gd cn cs L₀ aZ ccd cl outer) base (envX cn cs L₀ aZ ccd cl :: outer) h₀) (X : (Mine.hd.heap_1 w.params).In h₀) (T : Top VW LO mean mg mb h₀) (F : Fr h₀ L s.heap m) (N : News h₀ L s.heap led)
    (hs : m "self" = some (.ref x)) (hN : oN.data = .cell (some (.str (Str.ofString "a") tn))) (mN : (L + 1, oN) ∈ led) (mx : (x, instObj 218 d) ∈ led) (md : (d, dictOf [⟨kh, .str (Str.ofString "_headers") kt, .ref l⟩] 1) ∈ led)
    (ml : (l, ({ cls := .type "list", data := .seq #[.ref p1, .ref p2, .ref p3, .ref p4, .ref p5, .ref p6, .ref p7, .ref p8, .ref p9] nl } : Obj)) ∈ led) (m1 : (p1, ({ cls := .type "tuple", data := .seq #[.str (Str.ofString "a") a1, .str t1 b1] 0 } : Obj)) ∈ led) (m2 : (p2, ({ cls := .type "tuple", data := .seq #[.str (Str.ofString "b") a2, .str t2 b2] 0 } : Obj)) ∈ led) (m3 : (p3, ({ cls := .type "tuple", data := .seq #[.str (Str.ofString "C") a3, .str t3 b3] 0 } : Obj)) ∈ led) (m4 : (p4, ({ cls := .type "tuple", data := .seq #[.str (Str.ofString "a") a4, .str t4 b4] 0 } : Obj)) ∈ led) (m5 : (p5, ({ cls := .type "tuple", data := .seq #[.str (Str.ofString "B") a5, .str t5 b5] 0 } : Obj)) ∈ led) (m6 : (p6, ({ cls := .type "tuple", data := .seq #[.str (Str.ofString "c") a6, .str t6 b6] 0 } : Obj)) ∈ led) (m7 : (p7, ({ cls := .type "tuple", data := .seq #[.str (Str.ofString "A") a7, .str t7 b7] 0 } : Obj)) ∈ led) (m8 : (p8, ({ cls := .type "tuple", data := .seq #[.str (Str.ofString "B") a8, .str t8 b8] 0 } : Obj)) ∈ led) (m9 : (p9, ({ cls := .type "tuple", data := .seq #[.str (Str.ofString "C") a9, .str t9 b9] 0 } : Obj)) ∈ led)
    (hret : ∀ D u1 u2 u3 h' tk', Fr h₀ L h' m → News h₀ L h' ((D, ({ cls := .type "list", data := .seq #[.str t1 u1, .str t4 u2, .str t7 u3] 3 } : Obj)) :: led) → (∀ p ∈ led, p.1 ≠ D) → Q (.ref D) { s with heap := h', toks := tk' }) :
    wpAny (model PySem.Challenge.rw_pg0251_01.row.prog w) ((ktrTop dp un gd cn cs L₀ aZ ccd cl outer).deeper (gaE w L)) (eval (lcG w) (gaE w L)) Q E s := by
  obtain ⟨px, el⟩ := lcG_eq w
  rw [el]
  refine flt_comp (env := gaE w L) (base := led) (cl := cloG L) (m := m) (h₀ := h₀) (L := L) (closG w L) (by rw [lcG_names]; decide) (by rfl) (by rw [lcG_names]; decide) (by rw [lcG_names]; decide) ?_ (by intro _; rfl)
  refine itG w mean mg mb dp un gd cn cs aZ ccd cl outer base h₀ L₀ L m x d l kh kt led hk hd hu hs mx md s _ _ B X T F N fun h₁ tk₁ F₁ N₁ => ?_
  have hl : h₁.IsList l #[.ref p1, .ref p2, .ref p3, .ref p4, .ref p5, .ref p6, .ref p7, .ref p8, .ref p9] := ⟨_, (N₁ _ ml).1, rfl, _, rfl⟩
  have pick : ∀ i v, i < 9 → #[Value.ref p1, Value.ref p2, Value.ref p3, Value.ref p4, Value.ref p5, Value.ref p6, Value.ref p7, Value.ref p8, Value.ref p9][i]? = some v → ∃ p n a b, v = .ref p ∧ (p, ({ cls := .type "tuple", data := .seq #[.str n a, .str ([t1, t2, t3, t4, t5, t6, t7, t8, t9].getD i t1) b] 0 } : Obj)) ∈ led ∧ n.length ≤ 1 ∧ (Txt.lower n == Str.ofString "a") = [true, false, false, true, false, false, true, false, false].getD i false := fun i v hi hv => by
    rcases lt9 hi with rfl | rfl | rfl | rfl | rfl | rfl | rfl | rfl | rfl
    · exact ⟨p1, _, _, _, (Option.some.inj hv).symm, m1, by decide +kernel, by decide +kernel⟩
    · exact ⟨p2, _, _, _, (Option.some.inj hv).symm, m2, by decide +kernel, by decide +kernel⟩
    · exact ⟨p3, _, _, _, (Option.some.inj hv).symm, m3, by decide +kernel, by decide +kernel⟩
    · exact ⟨p4, _, _, _, (Option.some.inj hv).symm, m4, by decide +kernel, by decide +kernel⟩
    · exact ⟨p5, _, _, _, (Option.some.inj hv).symm, m5, by decide +kernel, by decide +kernel⟩
    · exact ⟨p6, _, _, _, (Option.some.inj hv).symm, m6, by decide +kernel, by decide +kernel⟩
    · exact ⟨p7, _, _, _, (Option.some.inj hv).symm, m7, by decide +kernel, by decide +kernel⟩
    · exact ⟨p8, _, _, _, (Option.some.inj hv).symm, m8, by decide +kernel, by decide +kernel⟩
    · exact ⟨p9, _, _, _, (Option.some.inj hv).symm, m9, by decide +kernel, by decide +kernel⟩
  refine ⟨9, _, _, fun i y no => no = [] ∧ ∃ u, y = .str ([t1, t2, t3, t4, t5, t6, t7, t8, t9].getD i t1) u, fun i => [true, false, false, true, false, false, true, false, false].getD i false, Source.list (by rfl) hl, Nat.le_of_ble_eq_true rfl, fun a ha => by rw [List.mem_singleton.mp ha]; exact (N₁ _ ml).2.1, F₁, N₁, ?_, ?_, ?_⟩
  · intro i v hi hv C oC m₂ h tk led' E' hC hmv F N hb hbC
    obtain ⟨p, n, a, b, rfl, mp, hn1, hb1⟩ := pick i v hi hv
    exact tstG w mean mg mb dp un gd cn cs aZ ccd cl outer base h₀ L₀ L m m₂ C p oC oN n _ _ a b tn led' hk hd hu hC hmv hN (hb _ mN) (hb _ mp) hn1 { s with heap := h, toks := tk } _ _ B X T F N fun h' tk' F' N' => ⟨hb1, h', tk', rfl, F', N'⟩
  · intro i v hi hv C oC m₂ h tk led' E' hC hmv F N hb hbC
    obtain ⟨p, n, a, b, rfl, mp, hn1, hb1⟩ := pick i v hi hv
    exact eltG w mean mg mb dp un gd cn cs aZ ccd cl outer base h₀ L₀ L m m₂ C p oC oN n _ _ a b tn led' hk hd hu hC hmv hN (hb _ mN) (hb _ mp) hn1 { s with heap := h, toks := tk } _ _ B X T F N fun u h' tk' F' N' => ⟨[], h', tk', rfl, F', N', (fun q hq => nomatch hq), rfl, u, rfl⟩
  · intro D ys objs h' tk' F' N' off md
    have e9 := md.invF (by rfl)
    have e8 := e9.invF (by rfl)
    obtain ⟨ys7, ob7, v7, n7, ey7, eo7, e7, rn7, u3, ry7⟩ := e8.invT (by rfl)
    have e6 := e7.invF (by rfl)
    have e5 := e6.invF (by rfl)
    obtain ⟨ys4, ob4, v4, n4, ey4, eo4, e4, rn4, u2, ry4⟩ := e5.invT (by rfl)
    have e3 := e4.invF (by rfl)
    have e2 := e3.invF (by rfl)
    obtain ⟨ys1, ob1, v1, n1, ey1, eo1, e1, rn1, u1, ry1⟩ := e2.invT (by rfl)
    obtain ⟨ey0, eo0⟩ := e1.inv0
    have EY : ys = [.str t1 u1, .str t4 u2, .str t7 u3] := by
      rw [ey7, ey4, ey1, ey0, ry1, ry4, ry7]
      rfl
    have EO : objs = [] := by
      rw [eo7, eo4, eo1, eo0, rn1, rn4, rn7]
      rfl
    rw [EY, EO, List.append_nil] at N'
    rw [EO, List.append_nil] at off
    exact hret D u1 u2 u3 h' tk' F' N' off
set_option maxHeartbeats 8000000 in
theorem selG_b (w : World) (mean mg mb) {dp un : Nat} {gd : Option (List Code)} {cn : Str} {cs : Scope} {aZ : Addr} {ccd : Value} {cl : List (Str × Addr)} {outer : List Env} {base h₀ : Heap} {L₀ L : Addr} {m : Str → Option Value} {led : List (Addr × Obj)} {x d l : Addr} {nl : Nat} {p1 p2 p3 p4 p5 p6 p7 p8 p9 : Addr} {t1 t2 t3 t4 t5 t6 t7 t8 t9 : Str} {a1 b1 a2 b2 a3 b3 a4 b4 a5 b5 a6 b6 a7 b7 a8 b8 a9 b9 : Tok} {kh : Int} {kt tn : Tok} {oN : Obj} {s : Shared} {Q : Value → Shared → Prop} {E : Value → Shared → Prop}
    (hk : cs.kind = .function) (hd : dp + 2 * 3 < recursionLimit) (hu : un + 20 * 3 < cLine) (B : Below (ktrTop dp un gd cn cs L₀ aZ ccd cl outer) base (envX cn cs L₀ aZ ccd cl :: outer) h₀) (X : (Mine.hd.heap_1 w.params).In h₀) (T : Top VW LO mean mg mb h₀) (F : Fr h₀ L s.heap m) (N : News h₀ L s.heap led)
    (hs : m "self" = some (.ref x)) (hN : oN.data = .cell (some (.str (Str.ofString "b") tn))) (mN : (L + 1, oN) ∈ led) (mx : (x, instObj 218 d) ∈ led) (md : (d, dictOf [⟨kh, .str (Str.ofString "_headers") kt, .ref l⟩] 1) ∈ led)
    (ml : (l, ({ cls := .type "list", data := .seq #[.ref p1, .ref p2, .ref p3, .ref p4, .ref p5, .ref p6, .ref p7, .ref p8, .ref p9] nl } : Obj)) ∈ led) (m1 : (p1, ({ cls := .type "tuple", data := .seq #[.str (Str.ofString "a") a1, .str t1 b1] 0 } : Obj)) ∈ led) (m2 : (p2, ({ cls := .type "tuple", data := .seq #[.str (Str.ofString "b") a2, .str t2 b2] 0 } : Obj)) ∈ led) (m3 : (p3, ({ cls := .type "tuple", data := .seq #[.str (Str.ofString "C") a3, .str t3 b3] 0 } : Obj)) ∈ led) (m4 : (p4, ({ cls := .type "tuple", data := .seq #[.str (Str.ofString "a") a4, .str t4 b4] 0 } : Obj)) ∈ led) (m5 : (p5, ({ cls := .type "tuple", data := .seq #[.str (Str.ofString "B") a5, .str t5 b5] 0 } : Obj)) ∈ led) (m6 : (p6, ({ cls := .type "tuple", data := .seq #[.str (Str.ofString "c") a6, .str t6 b6] 0 } : Obj)) ∈ led) (m7 : (p7, ({ cls := .type "tuple", data := .seq #[.str (Str.ofString "A") a7, .str t7 b7] 0 } : Obj)) ∈ led) (m8 : (p8, ({ cls := .type "tuple", data := .seq #[.str (Str.ofString "B") a8, .str t8 b8] 0 } : Obj)) ∈ led) (m9 : (p9, ({ cls := .type "tuple", data := .seq #[.str (Str.ofString "C") a9, .str t9 b9] 0 } : Obj)) ∈ led)
    (hret : ∀ D u1 u2 u3 h' tk', Fr h₀ L h' m → News h₀ L h' ((D, ({ cls := .type "list", data := .seq #[.str t2 u1, .str t5 u2, .str t8 u3] 3 } : Obj)) :: led) → (∀ p ∈ led, p.1 ≠ D) → Q (.ref D) { s with heap := h', toks := tk' }) :
    wpAny (model PySem.Challenge.rw_pg0251_01.row.prog w) ((ktrTop dp un gd cn cs L₀ aZ ccd cl outer).deeper (gaE w L)) (eval (lcG w) (gaE w L)) Q E s := by
  obtain ⟨px, el⟩ := lcG_eq w
  rw [el]
  refine flt_comp (env := gaE w L) (base := led) (cl := cloG L) (m := m) (h₀ := h₀) (L := L) (closG w L) (by rw [lcG_names]; decide) (by rfl) (by rw [lcG_names]; decide) (by rw [lcG_names]; decide) ?_ (by intro _; rfl)
  refine itG w mean mg mb dp un gd cn cs aZ ccd cl outer base h₀ L₀ L m x d l kh kt led hk hd hu hs mx md s _ _ B X T F N fun h₁ tk₁ F₁ N₁ => ?_
  have hl : h₁.IsList l #[.ref p1, .ref p2, .ref p3, .ref p4, .ref p5, .ref p6, .ref p7, .ref p8, .ref p9] := ⟨_, (N₁ _ ml).1, rfl, _, rfl⟩
  have pick : ∀ i v, i < 9 → #[Value.ref p1, Value.ref p2, Value.ref p3, Value.ref p4, Value.ref p5, Value.ref p6, Value.ref p7, Value.ref p8, Value.ref p9][i]? = some v → ∃ p n a b, v = .ref p ∧ (p, ({ cls := .type "tuple", data := .seq #[.str n a, .str ([t1, t2, t3, t4, t5, t6, t7, t8, t9].getD i t1) b] 0 } : Obj)) ∈ led ∧ n.length ≤ 1 ∧ (Txt.lower n == Str.ofString "b") = [false, true, false, false, true, false, false, true, false].getD i false := fun i v hi hv => by
    rcases lt9 hi with rfl | rfl | rfl | rfl | rfl | rfl | rfl | rfl | rfl
    · exact ⟨p1, _, _, _, (Option.some.inj hv).symm, m1, by decide +kernel, by decide +kernel⟩
    · exact ⟨p2, _, _, _, (Option.some.inj hv).symm, m2, by decide +kernel, by decide +kernel⟩
    · exact ⟨p3, _, _, _, (Option.some.inj hv).symm, m3, by decide +kernel, by decide +kernel⟩
    · exact ⟨p4, _, _, _, (Option.some.inj hv).symm, m4, by decide +kernel, by decide +kernel⟩
    · exact ⟨p5, _, _, _, (Option.some.inj hv).symm, m5, by decide +kernel, by decide +kernel⟩
    · exact ⟨p6, _, _, _, (Option.some.inj hv).symm, m6, by decide +kernel, by decide +kernel⟩
    · exact ⟨p7, _, _, _, (Option.some.inj hv).symm, m7, by decide +kernel, by decide +kernel⟩
    · exact ⟨p8, _, _, _, (Option.some.inj hv).symm, m8, by decide +kernel, by decide +kernel⟩
    · exact ⟨p9, _, _, _, (Option.some.inj hv).symm, m9, by decide +kernel, by decide +kernel⟩
  refine ⟨9, _, _, fun i y no => no = [] ∧ ∃ u, y = .str ([t1, t2, t3, t4, t5, t6, t7, t8, t9].getD i t1) u, fun i => [false, true, false, false, true, false, false, true, false].getD i false, Source.list (by rfl) hl, Nat.le_of_ble_eq_true rfl, fun a ha => by rw [List.mem_singleton.mp ha]; exact (N₁ _ ml).2.1, F₁, N₁, ?_, ?_, ?_⟩
  · intro i v hi hv C oC m₂ h tk led' E' hC hmv F N hb hbC
    obtain ⟨p, n, a, b, rfl, mp, hn1, hb1⟩ := pick i v hi hv
    exact tstG w mean mg mb dp un gd cn cs aZ ccd cl outer base h₀ L₀ L m m₂ C p oC oN n _ _ a b tn led' hk hd hu hC hmv hN (hb _ mN) (hb _ mp) hn1 { s with heap := h, toks := tk } _ _ B X T F N fun h' tk' F' N' => ⟨hb1, h', tk', rfl, F', N'⟩
  · intro i v hi hv C oC m₂ h tk led' E' hC hmv F N hb hbC
    obtain ⟨p, n, a, b, rfl, mp, hn1, hb1⟩ := pick i v hi hv
    exact eltG w mean mg mb dp un gd cn cs aZ ccd cl outer base h₀ L₀ L m m₂ C p oC oN n _ _ a b tn led' hk hd hu hC hmv hN (hb _ mN) (hb _ mp) hn1 { s with heap := h, toks := tk } _ _ B X T F N fun u h' tk' F' N' => ⟨[], h', tk', rfl, F', N', (fun q hq => nomatch hq), rfl, u, rfl⟩
  · intro D ys objs h' tk' F' N' off md
    have e9 := md.invF (by rfl)
    obtain ⟨ys8, ob8, v8, n8, ey8, eo8, e8, rn8, u3, ry8⟩ := e9.invT (by rfl)
    have e7 := e8.invF (by rfl)
    have e6 := e7.invF (by rfl)
    obtain ⟨ys5, ob5, v5, n5, ey5, eo5, e5, rn5, u2, ry5⟩ := e6.invT (by rfl)
    have e4 := e5.invF (by rfl)
    have e3 := e4.invF (by rfl)
    obtain ⟨ys2, ob2, v2, n2, ey2, eo2, e2, rn2, u1, ry2⟩ := e3.invT (by rfl)
    have e1 := e2.invF (by rfl)
    obtain ⟨ey0, eo0⟩ := e1.inv0
    have EY : ys = [.str t2 u1, .str t5 u2, .str t8 u3] := by
      rw [ey8, ey5, ey2, ey0, ry2, ry5, ry8]
      rfl
    have EO : objs = [] := by
      rw [eo8, eo5, eo2, eo0, rn2, rn5, rn8]
      rfl
    rw [EY, EO, List.append_nil] at N'
    rw [EO, List.append_nil] at off
    exact hret D u1 u2 u3 h' tk' F' N' off
set_option maxHeartbeats 8000000 in
theorem selG_c (w : World) (mean mg mb) {dp un : Nat} {gd : Option (List Code)} {cn : Str} {cs : Scope} {aZ : Addr} {ccd : Value} {cl : List (Str × Addr)} {outer : List Env} {base h₀ : Heap} {L₀ L : Addr} {m : Str → Option Value} {led : List (Addr × Obj)} {x d l : Addr} {nl : Nat} {p1 p2 p3 p4 p5 p6 p7 p8 p9 : Addr} {t1 t2 t3 t4 t5 t6 t7 t8 t9 : Str} {a1 b1 a2 b2 a3 b3 a4 b4 a5 b5 a6 b6 a7 b7 a8 b8 a9 b9 : Tok} {kh : Int} {kt tn : Tok} {oN : Obj} {s : Shared} {Q : Value → Shared → Prop} {E : Value → Shared → Prop}
    (hk : cs.kind = .function) (hd : dp + 2 * 3 < recursionLimit) (hu : un + 20 * 3 < cLine) (B : Below (ktrTop dp un gd cn cs L₀ aZ ccd cl outer) base (envX cn cs L₀ aZ ccd cl :: outer) h₀) (X : (Mine.hd.heap_1 w.params).In h₀) (T : Top VW LO mean mg mb h₀) (F : Fr h₀ L s.heap m) (N : News h₀ L s.heap led)
    (hs : m "self" = some (.ref x)) (hN : oN.data = .cell (some (.str (Str.ofString "c") tn))) (mN : (L + 1, oN) ∈ led) (mx : (x, instObj 218 d) ∈ led) (md : (d, dictOf [⟨kh, .str (Str.ofString "_headers") kt, .ref l⟩] 1) ∈ led)
    (ml : (l, ({ cls := .type "list", data := .seq #[.ref p1, .ref p2, .ref p3, .ref p4, .ref p5, .ref p6, .ref p7, .ref p8, .ref p9] nl } : Obj)) ∈ led) (m1 : (p1, ({ cls := .type "tuple", data := .seq #[.str (Str.ofString "a") a1, .str t1 b1] 0 } : Obj)) ∈ led) (m2 : (p2, ({ cls := .type "tuple", data := .seq #[.str (Str.ofString "b") a2, .str t2 b2] 0 } : Obj)) ∈ led) (m3 : (p3, ({ cls := .type "tuple", data := .seq #[.str (Str.ofString "C") a3, .str t3 b3] 0 } : Obj)) ∈ led) (m4 : (p4, ({ cls := .type "tuple", data := .seq #[.str (Str.ofString "a") a4, .str t4 b4] 0 } : Obj)) ∈ led) (m5 : (p5, ({ cls := .type "tuple", data := .seq #[.str (Str.ofString "B") a5, .str t5 b5] 0 } : Obj)) ∈ led) (m6 : (p6, ({ cls := .type "tuple", data := .seq #[.str (Str.ofString "c") a6, .str t6 b6] 0 } : Obj)) ∈ led) (m7 : (p7, ({ cls := .type "tuple", data := .seq #[.str (Str.ofString "A") a7, .str t7 b7] 0 } : Obj)) ∈ led) (m8 : (p8, ({ cls := .type "tuple", data := .seq #[.str (Str.ofString "B") a8, .str t8 b8] 0 } : Obj)) ∈ led) (m9 : (p9, ({ cls := .type "tuple", data := .seq #[.str (Str.ofString "C") a9, .str t9 b9] 0 } : Obj)) ∈ led)
    (hret : ∀ D u1 u2 u3 h' tk', Fr h₀ L h' m → News h₀ L h' ((D, ({ cls := .type "list", data := .seq #[.str t3 u1, .str t6 u2, .str t9 u3] 3 } : Obj)) :: led) → (∀ p ∈ led, p.1 ≠ D) → Q (.ref D) { s with heap := h', toks := tk' }) :
    wpAny (model PySem.Challenge.rw_pg0251_01.row.prog w) ((ktrTop dp un gd cn cs L₀ aZ ccd cl outer).deeper (gaE w L)) (eval (lcG w) (gaE w L)) Q E s := by
  obtain ⟨px, el⟩ := lcG_eq w
  rw [el]
  refine flt_comp (env := gaE w L) (base := led) (cl := cloG L) (m := m) (h₀ := h₀) (L := L) (closG w L) (by rw [lcG_names]; decide) (by rfl) (by rw [lcG_names]; decide) (by rw [lcG_names]; decide) ?_ (by intro _; rfl)
  refine itG w mean mg mb dp un gd cn cs aZ ccd cl outer base h₀ L₀ L m x d l kh kt led hk hd hu hs mx md s _ _ B X T F N fun h₁ tk₁ F₁ N₁ => ?_
  have hl : h₁.IsList l #[.ref p1, .ref p2, .ref p3, .ref p4, .ref p5, .ref p6, .ref p7, .ref p8, .ref p9] := ⟨_, (N₁ _ ml).1, rfl, _, rfl⟩
  have pick : ∀ i v, i < 9 → #[Value.ref p1, Value.ref p2, Value.ref p3, Value.ref p4, Value.ref p5, Value.ref p6, Value.ref p7, Value.ref p8, Value.ref p9][i]? = some v → ∃ p n a b, v = .ref p ∧ (p, ({ cls := .type "tuple", data := .seq #[.str n a, .str ([t1, t2, t3, t4, t5, t6, t7, t8, t9].getD i t1) b] 0 } : Obj)) ∈ led ∧ n.length ≤ 1 ∧ (Txt.lower n == Str.ofString "c") = [false, false, true, false, false, true, false, false, true].getD i false := fun i v hi hv => by
    rcases lt9 hi with rfl | rfl | rfl | rfl | rfl | rfl | rfl | rfl | rfl
    · exact ⟨p1, _, _, _, (Option.some.inj hv).symm, m1, by decide +kernel, by decide +kernel⟩
    · exact ⟨p2, _, _, _, (Option.some.inj hv).symm, m2, by decide +kernel, by decide +kernel⟩
    · exact ⟨p3, _, _, _, (Option.some.inj hv).symm, m3, by decide +kernel, by decide +kernel⟩
    · exact ⟨p4, _, _, _, (Option.some.inj hv).symm, m4, by decide +kernel, by decide +kernel⟩
    · exact ⟨p5, _, _, _, (Option.some.inj hv).symm, m5, by decide +kernel, by decide +kernel⟩
    · exact ⟨p6, _, _, _, (Option.some.inj hv).symm, m6, by decide +kernel, by decide +kernel⟩
    · exact ⟨p7, _, _, _, (Option.some.inj hv).symm, m7, by decide +kernel, by decide +kernel⟩
    · exact ⟨p8, _, _, _, (Option.some.inj hv).symm, m8, by decide +kernel, by decide +kernel⟩
    · exact ⟨p9, _, _, _, (Option.some.inj hv).symm, m9, by decide +kernel, by decide +kernel⟩
  refine ⟨9, _, _, fun i y no => no = [] ∧ ∃ u, y = .str ([t1, t2, t3, t4, t5, t6, t7, t8, t9].getD i t1) u, fun i => [false, false, true, false, false, true, false, false, true].getD i false, Source.list (by rfl) hl, Nat.le_of_ble_eq_true rfl, fun a ha => by rw [List.mem_singleton.mp ha]; exact (N₁ _ ml).2.1, F₁, N₁, ?_, ?_, ?_⟩
  · intro i v hi hv C oC m₂ h tk led' E' hC hmv F N hb hbC
    obtain ⟨p, n, a, b, rfl, mp, hn1, hb1⟩ := pick i v hi hv
    exact tstG w mean mg mb dp un gd cn cs aZ ccd cl outer base h₀ L₀ L m m₂ C p oC oN n _ _ a b tn led' hk hd hu hC hmv hN (hb _ mN) (hb _ mp) hn1 { s with heap := h, toks := tk } _ _ B X T F N fun h' tk' F' N' => ⟨hb1, h', tk', rfl, F', N'⟩
  · intro i v hi hv C oC m₂ h tk led' E' hC hmv F N hb hbC
    obtain ⟨p, n, a, b, rfl, mp, hn1, hb1⟩ := pick i v hi hv
    exact eltG w mean mg mb dp un gd cn cs aZ ccd cl outer base h₀ L₀ L m m₂ C p oC oN n _ _ a b tn led' hk hd hu hC hmv hN (hb _ mN) (hb _ mp) hn1 { s with heap := h, toks := tk } _ _ B X T F N fun u h' tk' F' N' => ⟨[], h', tk', rfl, F', N', (fun q hq => nomatch hq), rfl, u, rfl⟩
  · intro D ys objs h' tk' F' N' off md
    obtain ⟨ys9, ob9, v9, n9, ey9, eo9, e9, rn9, u3, ry9⟩ := md.invT (by rfl)
    have e8 := e9.invF (by rfl)
    have e7 := e8.invF (by rfl)
    obtain ⟨ys6, ob6, v6, n6, ey6, eo6, e6, rn6, u2, ry6⟩ := e7.invT (by rfl)
    have e5 := e6.invF (by rfl)
    have e4 := e5.invF (by rfl)
    obtain ⟨ys3, ob3, v3, n3, ey3, eo3, e3, rn3, u1, ry3⟩ := e4.invT (by rfl)
    have e2 := e3.invF (by rfl)
    have e1 := e2.invF (by rfl)
    obtain ⟨ey0, eo0⟩ := e1.inv0
    have EY : ys = [.str t3 u1, .str t6 u2, .str t9 u3] := by
      rw [ey9, ey6, ey3, ey0, ry3, ry6, ry9]
      rfl
    have EO : objs = [] := by
      rw [eo9, eo6, eo3, eo0, rn3, rn6, rn9]
      rfl
    rw [EY, EO, List.append_nil] at N'
    rw [EO, List.append_nil] at off
    exact hret D u1 u2 u3 h' tk' F' N' off
end
section

set_option maxRecDepth 100000 in
set_option maxHeartbeats 8000000 in
theorem get_tell_A (w : World) (mean mg mb) (x d l : Addr) (nl : Nat) (p1 p2 p3 p4 p5 p6 p7 p8 p9 : Addr) (t1 t2 t3 t4 t5 t6 t7 t8 t9 : Str) (a1 b1 a2 b2 a3 b3 a4 b4 a5 b5 a6 b6 a7 b7 a8 b8 a9 b9 : Tok) (kh : Int) (kt tn : Tok)
   (hn0 : NoFind codeNm (Str.ofString "a")) :
    Tell 3 w mean mg mb 157 [(x, instObj 218 d), (d, dictOf [⟨kh, .str (Str.ofString "_headers") kt, .ref l⟩] 1), (l, ({ cls := .type "list", data := .seq #[.ref p1, .ref p2, .ref p3, .ref p4, .ref p5, .ref p6, .ref p7, .ref p8, .ref p9] nl } : Obj)), (p1, ({ cls := .type "tuple", data := .seq #[.str (Str.ofString "a") a1, .str t1 b1] 0 } : Obj)), (p2, ({ cls := .type "tuple", data := .seq #[.str (Str.ofString "b") a2, .str t2 b2] 0 } : Obj)), (p3, ({ cls := .type "tuple", data := .seq #[.str (Str.ofString "C") a3, .str t3 b3] 0 } : Obj)), (p4, ({ cls := .type "tuple", data := .seq #[.str (Str.ofString "a") a4, .str t4 b4] 0 } : Obj)), (p5, ({ cls := .type "tuple", data := .seq #[.str (Str.ofString "B") a5, .str t5 b5] 0 } : Obj)), (p6, ({ cls := .type "tuple", data := .seq #[.str (Str.ofString "c") a6, .str t6 b6] 0 } : Obj)), (p7, ({ cls := .type "tuple", data := .seq #[.str (Str.ofString "A") a7, .str t7 b7] 0 } : Obj)), (p8, ({ cls := .type "tuple", data := .seq #[.str (Str.ofString "B") a8, .str t8 b8] 0 } : Obj)), (p9, ({ cls := .type "tuple", data := .seq #[.str (Str.ofString "C") a9, .str t9 b9] 0 } : Obj))] [.ref x, .str (Str.ofString "A") tn] (fun tl v => ∃ D u1 u2 u3, v = .ref D ∧ tl = [(D, ({ cls := .type "list", data := .seq #[.str t1 u1, .str t4 u2, .str t7 u3] 3 } : Obj))]) := by
  w_on; unfold Tell; k_fill
  intro dp un gd cn cs aZ ccd cl outer A₀ base h₀ L m s Q E B F X N T hk hd hu hret
  refine wpAny_call ?_
  (k_dflt (refine' code_tellC ?zqk1 ?zqk2 ?zqk3 ?zqk4 ?zqk5 ?zqkA ?zqkF ?zqkK ?zqk6 ?zqk7 ?zqk8 ?zqk9 ?zqkB ?zqkD ?_ ?zqc2 ?zqc3 ?zqc4; (case zqkA => exact rfl); (case zqkF => exact rfl); (case zqkK => assumption); (case zqk1 => k_asm); (case zqk2 => k_asm); (case zqk3 => k_asm); (case zqk4 => k_asm); (case zqk5 => k_asm); (case zqk6 => k_is); (case zqk7 => k_is); (case zqk8 => ktr_room); (case zqk9 => first | exact BindsTo.of_eq rfl | exact binds_K (by k_in) rfl (by k_is) rfl rfl rfl); (case zqkB => exact rfl); (case zqkD => decide +kernel); (case zqc2 => exact rfl); (case zqc3 => exact rfl); (case zqc4 => exact rfl); k_whole))
  intro g' L' h' tkc cells' hg FG' F' N' Y' B' X' T' l0
  k_cells Y'
  (have n8 := neCell0 l0); (have n9 := neCell1 l0); (try simp only [NeAll, and_true] at n8 n9); (try walk_at "mine split"); (try k_lt l0)
  (try simp only [List.cons_append, List.nil_append] at N')
  (try dsimp only); (try k_fold)
  repeat' (first | (k_here; (with_reducible show wpAny _ _ (eval (Expr.ListComp _ _ _ _) _) _ _ _); k_dflt (refine' selG_a w mean mg mb hk hd hu ?B ?X ?T ?F ?N ?hs ?hN ?mN ?mx ?md ?ml ?m1 ?m2 ?m3 ?m4 ?m5 ?m6 ?m7 ?m8 ?m9 ?_; (case B => k_asm); (case X => k_asm); (case T => k_asm); (case F => k_asm); (case N => k_asm); (case hs => rfl); (case hN => k_asm); (case mN => k_mem); (case mx => k_mem); (case md => k_mem); (case ml => k_mem); (case m1 => k_mem); (case m2 => k_mem); (case m3 => k_mem); (case m4 => k_mem); (case m5 => k_mem); (case m6 => k_mem); (case m7 => k_mem); (case m8 => k_mem); (case m9 => k_mem); intro D' u1' u2' u3' h' tk' F' N' l1'); (have n8' := NeAll.of (fun q hq => Ne.symm (l1' q hq))); (try simp only [NeAll, and_true] at n8'); (try walk_at "mine split"); (try k_sweep); (try dsimp only); (try k_fold)) |  ((with_reducible show wpAny _ _ (call (Value.ref _) _ _) _ _ _); (k_here; k_dflt (refine wpAny_call ?_; refine' tell_useA (conv_name _ _ _ _ _ _ _ ?zqk29 ?zqhn9) ?zqB ?zqF ?zqX ?zqN ?zqT ?zqhk ?zqhd ?zqhu ?zqhs ?_; (case zqB => k_asm); (case zqF => k_asm); (case zqX => k_asm); (case zqN => k_asm); (case zqT => k_asm); (case zqhk => first | exact rfl | assumption); (case zqhd => ktr_room); (case zqhu => ktr_units); (case zqhs => k_subL); (case zqk29 => exact 0); (case zqhn9 => assumption); k_whole); intro r9 tl9 h9 tk9 p9 k9 F9 N9 e9; obtain ⟨tl9e, r9e⟩ := p9; subst r9e; subst tl9e; (try simp only [List.cons_append, List.nil_append] at N9); (try simp only [NeAlls, NeAll, and_true, true_and, and_assoc] at e9); (repeat (have e8 := e9.1; replace e9 := e9.2)); (try k_sweep); (try dsimp only); (try k_fold))) | (k_unfold; (try dsimp only)) | (k_end; wrow_close) | (walk1 <;> (try dsimp only) <;> (try walk_at "mine split")) | (dsimp only; walk1) | (leave1; walk_say "STEP leave1"; try dsimp only) | fail "no step")
  all_goals first
  | (exfalso; omega)
  | exact tell_fin2 hret hg (by k_asm) (by k_asm) N (by k_subL) (⟨_, _, _, _, rfl, rfl⟩) (by k_subL) (by walk_at "mine ne")
  | skip

set_option maxRecDepth 100000 in
set_option maxHeartbeats 8000000 in
theorem get_tell_b (w : World) (mean mg mb) (x d l : Addr) (nl : Nat) (p1 p2 p3 p4 p5 p6 p7 p8 p9 : Addr) (t1 t2 t3 t4 t5 t6 t7 t8 t9 : Str) (a1 b1 a2 b2 a3 b3 a4 b4 a5 b5 a6 b6 a7 b7 a8 b8 a9 b9 : Tok) (kh : Int) (kt tn : Tok)
   (hn0 : NoFind codeNm (Str.ofString "b")) :
    Tell 3 w mean mg mb 157 [(x, instObj 218 d), (d, dictOf [⟨kh, .str (Str.ofString "_headers") kt, .ref l⟩] 1), (l, ({ cls := .type "list", data := .seq #[.ref p1, .ref p2, .ref p3, .ref p4, .ref p5, .ref p6, .ref p7, .ref p8, .ref p9] nl } : Obj)), (p1, ({ cls := .type "tuple", data := .seq #[.str (Str.ofString "a") a1, .str t1 b1] 0 } : Obj)), (p2, ({ cls := .type "tuple", data := .seq #[.str (Str.ofString "b") a2, .str t2 b2] 0 } : Obj)), (p3, ({ cls := .type "tuple", data := .seq #[.str (Str.ofString "C") a3, .str t3 b3] 0 } : Obj)), (p4, ({ cls := .type "tuple", data := .seq #[.str (Str.ofString "a") a4, .str t4 b4] 0 } : Obj)), (p5, ({ cls := .type "tuple", data := .seq #[.str (Str.ofString "B") a5, .str t5 b5] 0 } : Obj)), (p6, ({ cls := .type "tuple", data := .seq #[.str (Str.ofString "c") a6, .str t6 b6] 0 } : Obj)), (p7, ({ cls := .type "tuple", data := .seq #[.str (Str.ofString "A") a7, .str t7 b7] 0 } : Obj)), (p8, ({ cls := .type "tuple", data := .seq #[.str (Str.ofString "B") a8, .str t8 b8] 0 } : Obj)), (p9, ({ cls := .type "tuple", data := .seq #[.str (Str.ofString "C") a9, .str t9 b9] 0 } : Obj))] [.ref x, .str (Str.ofString "b") tn] (fun tl v => ∃ D u1 u2 u3, v = .ref D ∧ tl = [(D, ({ cls := .type "list", data := .seq #[.str t2 u1, .str t5 u2, .str t8 u3] 3 } : Obj))]) := by
  w_on; unfold Tell; k_fill
  intro dp un gd cn cs aZ ccd cl outer A₀ base h₀ L m s Q E B F X N T hk hd hu hret
  refine wpAny_call ?_
  (k_dflt (refine' code_tellC ?zqk1 ?zqk2 ?zqk3 ?zqk4 ?zqk5 ?zqkA ?zqkF ?zqkK ?zqk6 ?zqk7 ?zqk8 ?zqk9 ?zqkB ?zqkD ?_ ?zqc2 ?zqc3 ?zqc4; (case zqkA => exact rfl); (case zqkF => exact rfl); (case zqkK => assumption); (case zqk1 => k_asm); (case zqk2 => k_asm); (case zqk3 => k_asm); (case zqk4 => k_asm); (case zqk5 => k_asm); (case zqk6 => k_is); (case zqk7 => k_is); (case zqk8 => ktr_room); (case zqk9 => first | exact BindsTo.of_eq rfl | exact binds_K (by k_in) rfl (by k_is) rfl rfl rfl); (case zqkB => exact rfl); (case zqkD => decide +kernel); (case zqc2 => exact rfl); (case zqc3 => exact rfl); (case zqc4 => exact rfl); k_whole))
  intro g' L' h' tkc cells' hg FG' F' N' Y' B' X' T' l0
  k_cells Y'
  (have n8 := neCell0 l0); (have n9 := neCell1 l0); (try simp only [NeAll, and_true] at n8 n9); (try walk_at "mine split"); (try k_lt l0)
  (try simp only [List.cons_append, List.nil_append] at N')
  (try dsimp only); (try k_fold)
  repeat' (first | (k_here; (with_reducible show wpAny _ _ (eval (Expr.ListComp _ _ _ _) _) _ _ _); k_dflt (refine' selG_b w mean mg mb hk hd hu ?B ?X ?T ?F ?N ?hs ?hN ?mN ?mx ?md ?ml ?m1 ?m2 ?m3 ?m4 ?m5 ?m6 ?m7 ?m8 ?m9 ?_; (case B => k_asm); (case X => k_asm); (case T => k_asm); (case F => k_asm); (case N => k_asm); (case hs => rfl); (case hN => k_asm); (case mN => k_mem); (case mx => k_mem); (case md => k_mem); (case ml => k_mem); (case m1 => k_mem); (case m2 => k_mem); (case m3 => k_mem); (case m4 => k_mem); (case m5 => k_mem); (case m6 => k_mem); (case m7 => k_mem); (case m8 => k_mem); (case m9 => k_mem); intro D' u1' u2' u3' h' tk' F' N' l1'); (have n8' := NeAll.of (fun q hq => Ne.symm (l1' q hq))); (try simp only [NeAll, and_true] at n8'); (try walk_at "mine split"); (try k_sweep); (try dsimp only); (try k_fold)) |  ((with_reducible show wpAny _ _ (call (Value.ref _) _ _) _ _ _); (k_here; k_dflt (refine wpAny_call ?_; refine' tell_useA (conv_name _ _ _ _ _ _ _ ?zqk29 ?zqhn9) ?zqB ?zqF ?zqX ?zqN ?zqT ?zqhk ?zqhd ?zqhu ?zqhs ?_; (case zqB => k_asm); (case zqF => k_asm); (case zqX => k_asm); (case zqN => k_asm); (case zqT => k_asm); (case zqhk => first | exact rfl | assumption); (case zqhd => ktr_room); (case zqhu => ktr_units); (case zqhs => k_subL); (case zqk29 => exact 0); (case zqhn9 => assumption); k_whole); intro r9 tl9 h9 tk9 p9 k9 F9 N9 e9; obtain ⟨tl9e, r9e⟩ := p9; subst r9e; subst tl9e; (try simp only [List.cons_append, List.nil_append] at N9); (try simp only [NeAlls, NeAll, and_true, true_and, and_assoc] at e9); (repeat (have e8 := e9.1; replace e9 := e9.2)); (try k_sweep); (try dsimp only); (try k_fold))) | (k_unfold; (try dsimp only)) | (k_end; wrow_close) | (walk1 <;> (try dsimp only) <;> (try walk_at "mine split")) | (dsimp only; walk1) | (leave1; walk_say "STEP leave1"; try dsimp only) | fail "no step")
  all_goals first
  | (exfalso; omega)
  | exact tell_fin2 hret hg (by k_asm) (by k_asm) N (by k_subL) (⟨_, _, _, _, rfl, rfl⟩) (by k_subL) (by walk_at "mine ne")
  | skip

set_option maxRecDepth 100000 in
set_option maxHeartbeats 8000000 in
theorem get_tell_c (w : World) (mean mg mb) (x d l : Addr) (nl : Nat) (p1 p2 p3 p4 p5 p6 p7 p8 p9 : Addr) (t1 t2 t3 t4 t5 t6 t7 t8 t9 : Str) (a1 b1 a2 b2 a3 b3 a4 b4 a5 b5 a6 b6 a7 b7 a8 b8 a9 b9 : Tok) (kh : Int) (kt tn : Tok)
   (hn0 : NoFind codeNm (Str.ofString "c")) :
    Tell 3 w mean mg mb 157 [(x, instObj 218 d), (d, dictOf [⟨kh, .str (Str.ofString "_headers") kt, .ref l⟩] 1), (l, ({ cls := .type "list", data := .seq #[.ref p1, .ref p2, .ref p3, .ref p4, .ref p5, .ref p6, .ref p7, .ref p8, .ref p9] nl } : Obj)), (p1, ({ cls := .type "tuple", data := .seq #[.str (Str.ofString "a") a1, .str t1 b1] 0 } : Obj)), (p2, ({ cls := .type "tuple", data := .seq #[.str (Str.ofString "b") a2, .str t2 b2] 0 } : Obj)), (p3, ({ cls := .type "tuple", data := .seq #[.str (Str.ofString "C") a3, .str t3 b3] 0 } : Obj)), (p4, ({ cls := .type "tuple", data := .seq #[.str (Str.ofString "a") a4, .str t4 b4] 0 } : Obj)), (p5, ({ cls := .type "tuple", data := .seq #[.str (Str.ofString "B") a5, .str t5 b5] 0 } : Obj)), (p6, ({ cls := .type "tuple", data := .seq #[.str (Str.ofString "c") a6, .str t6 b6] 0 } : Obj)), (p7, ({ cls := .type "tuple", data := .seq #[.str (Str.ofString "A") a7, .str t7 b7] 0 } : Obj)), (p8, ({ cls := .type "tuple", data := .seq #[.str (Str.ofString "B") a8, .str t8 b8] 0 } : Obj)), (p9, ({ cls := .type "tuple", data := .seq #[.str (Str.ofString "C") a9, .str t9 b9] 0 } : Obj))] [.ref x, .str (Str.ofString "c") tn] (fun tl v => ∃ D u1 u2 u3, v = .ref D ∧ tl = [(D, ({ cls := .type "list", data := .seq #[.str t3 u1, .str t6 u2, .str t9 u3] 3 } : Obj))]) := by
  w_on; unfold Tell; k_fill
  intro dp un gd cn cs aZ ccd cl outer A₀ base h₀ L m s Q E B F X N T hk hd hu hret
  refine wpAny_call ?_
  (k_dflt (refine' code_tellC ?zqk1 ?zqk2 ?zqk3 ?zqk4 ?zqk5 ?zqkA ?zqkF ?zqkK ?zqk6 ?zqk7 ?zqk8 ?zqk9 ?zqkB ?zqkD ?_ ?zqc2 ?zqc3 ?zqc4; (case zqkA => exact rfl); (case zqkF => exact rfl); (case zqkK => assumption); (case zqk1 => k_asm); (case zqk2 => k_asm); (case zqk3 => k_asm); (case zqk4 => k_asm); (case zqk5 => k_asm); (case zqk6 => k_is); (case zqk7 => k_is); (case zqk8 => ktr_room); (case zqk9 => first | exact BindsTo.of_eq rfl | exact binds_K (by k_in) rfl (by k_is) rfl rfl rfl); (case zqkB => exact rfl); (case zqkD => decide +kernel); (case zqc2 => exact rfl); (case zqc3 => exact rfl); (case zqc4 => exact rfl); k_whole))
  intro g' L' h' tkc cells' hg FG' F' N' Y' B' X' T' l0
  k_cells Y'
  (have n8 := neCell0 l0); (have n9 := neCell1 l0); (try simp only [NeAll, and_true] at n8 n9); (try walk_at "mine split"); (try k_lt l0)
  (try simp only [List.cons_append, List.nil_append] at N')
  (try dsimp only); (try k_fold)
  repeat' (first | (k_here; (with_reducible show wpAny _ _ (eval (Expr.ListComp _ _ _ _) _) _ _ _); k_dflt (refine' selG_c w mean mg mb hk hd hu ?B ?X ?T ?F ?N ?hs ?hN ?mN ?mx ?md ?ml ?m1 ?m2 ?m3 ?m4 ?m5 ?m6 ?m7 ?m8 ?m9 ?_; (case B => k_asm); (case X => k_asm); (case T => k_asm); (case F => k_asm); (case N => k_asm); (case hs => rfl); (case hN => k_asm); (case mN => k_mem); (case mx => k_mem); (case md => k_mem); (case ml => k_mem); (case m1 => k_mem); (case m2 => k_mem); (case m3 => k_mem); (case m4 => k_mem); (case m5 => k_mem); (case m6 => k_mem); (case m7 => k_mem); (case m8 => k_mem); (case m9 => k_mem); intro D' u1' u2' u3' h' tk' F' N' l1'); (have n8' := NeAll.of (fun q hq => Ne.symm (l1' q hq))); (try simp only [NeAll, and_true] at n8'); (try walk_at "mine split"); (try k_sweep); (try dsimp only); (try k_fold)) |  ((with_reducible show wpAny _ _ (call (Value.ref _) _ _) _ _ _); (k_here; k_dflt (refine wpAny_call ?_; refine' tell_useA (conv_name _ _ _ _ _ _ _ ?zqk29 ?zqhn9) ?zqB ?zqF ?zqX ?zqN ?zqT ?zqhk ?zqhd ?zqhu ?zqhs ?_; (case zqB => k_asm); (case zqF => k_asm); (case zqX => k_asm); (case zqN => k_asm); (case zqT => k_asm); (case zqhk => first | exact rfl | assumption); (case zqhd => ktr_room); (case zqhu => ktr_units); (case zqhs => k_subL); (case zqk29 => exact 0); (case zqhn9 => assumption); k_whole); intro r9 tl9 h9 tk9 p9 k9 F9 N9 e9; obtain ⟨tl9e, r9e⟩ := p9; subst r9e; subst tl9e; (try simp only [List.cons_append, List.nil_append] at N9); (try simp only [NeAlls, NeAll, and_true, true_and, and_assoc] at e9); (repeat (have e8 := e9.1; replace e9 := e9.2)); (try k_sweep); (try dsimp only); (try k_fold))) | (k_unfold; (try dsimp only)) | (k_end; wrow_close) | (walk1 <;> (try dsimp only) <;> (try walk_at "mine split")) | (dsimp only; walk1) | (leave1; walk_say "STEP leave1"; try dsimp only) | fail "no step")
  all_goals first
  | (exfalso; omega)
  | exact tell_fin2 hret hg (by k_asm) (by k_asm) N (by k_subL) (⟨_, _, _, _, rfl, rfl⟩) (by k_subL) (by walk_at "mine ne")
  | skip
end
section

set_option maxRecDepth 100000 in
set_option maxHeartbeats 8000000 in
theorem elV (w : World) (mean mg mb) (h₀ : Heap) (L aL : Addr) (cd : Value) (m m₂ : Str → Option Value) (C C' : Addr) (oC : Obj) (a b c : Int) (t : Tok) (led : List (Addr × Obj))
   (hC : PyProof.Rows.LCg.NsObj oC m₂) (hv : m₂ "value" = some (.str (Tx a b c) t)) (i8 : In8 a b c) (s : Shared) (Q : Value → Shared → Prop) (E : Value → Shared → Prop)
   (B : Below callerA h₀ [] h₀) (X : (Mine.hd.heap_1 w.params).In h₀) (T : Top VW LO mean mg mb h₀) (F : Fr h₀ L s.heap m) (N : News h₀ L s.heap ((C', oC) :: led))
   (hret : ∀ T u1 u2 u3 h' tk', Fr h₀ L h' m → News h₀ L h' ((T, tup3 a b c u1 u2 u3) :: (C', oC) :: led) → (∀ p ∈ (C', oC) :: led, p.1 ≠ T) → Q (.ref T) { s with heap := h', toks := tk' }) :
    wpAny (model PySem.Challenge.rw_pg0251_01.row.prog w) (lawA w L aL cd) (eval (lcElt (lcV w)) (cEV w L aL cd C C')) Q E s := by
  w_on; revert X; k_fill; intro X
  k_dflt (show wpAny _ (callerA.deeper (envOfC _ (Scope.mk _ _ _ _ _) _ _ _)) (eval (.Call _ _ _ _) (compEnvC (Scope.mk _ _ _ _ _) _ _ (compEnvC (Scope.mk _ _ _ _ _) _ _ (envOfC _ (Scope.mk _ _ _ _ _) _ _ _)))) _ _ _)
  (try dsimp only); (try k_fold)
  repeat' (first | (k_here; (with_reducible show wpAny _ _ (eval (Expr.ListComp _ _ _ _) _) _ _ _); k_dflt (refine' intsC w mean mg mb ?B ?X ?T ?F ?N ?hC ?hv ?i8 ?_; (case B => k_asm); (case X => k_asm); (case T => k_asm); (case F => k_asm); (case N => k_asm); (case hC => assumption); (case hv => assumption); (case i8 => assumption); intro D' u1' u2' u3' h' tk' F' N' l1'); (have n8' := NeAll.of (fun q hq => Ne.symm (l1' q hq))); (try simp only [NeAll, and_true] at n8'); (try walk_at "mine split"); (try k_sweep); (try dsimp only); (try k_fold)) | ((with_reducible show wpAny _ _ (eval (Expr.Name _ _) _) _ _ _); (k_here; k_dflt (first | (refine' nameX_L ?zqk1 ?zqk2 ?_; (case zqk1 => k_asm); (case zqk2 => assumption)) | (refine' nameX_C ?zqN ?zqc ?zqm ?zqd ?_ ?zqa ?zqb; (case zqa => rfl); (case zqb => rfl); (case zqN => k_asm); (case zqc => rfl); (case zqm => k_mem); (case zqd => assumption); k_whole)))) | ((with_reducible show wpAny _ _ (exec (Stmt.For (Expr.Name _ _) (Expr.Name _ _) _ _ _) _) _ _ _); (k_here; (rename Fr _ _ _ _ => lF'); (with_unfolding_all refine' For_turns lF' ?_; k_whole))) | ((with_reducible show wpAny _ _ (call (Value.builtin "list.insert") _ _) _ _ _); ((with_reducible show wpAny _ _ (call _ (_ ++ _)) _ _ _); dsimp only [List.cons_append, List.nil_append])) | ((with_reducible show wpAny _ _ (subscriptTail _ _ (Value.ref _) _) _ _ _); (k_here; (with_reducible show wpAny _ _ (subscriptTail _ _ (Value.ref _) (Value.int _ _)) _ _ _); k_dflt (refine' sub_any ?zqk1 ?zqk2 ?zqkh ?zqk3 ?zqk4 ?zqk5 ?_; (case zqk1 => k_asm); (case zqk2 => k_mem); (case zqkh => first | exact .inr ⟨_, rfl⟩ | exact .inl ⟨_, rfl⟩); (case zqk3 => decide); (case zqk4 => decide); (case zqk5 => rfl)))) | (k_unfold; (try dsimp only)) | (k_end; wrow_close) | (walk1 <;> (try dsimp only) <;> (try walk_at "mine split")) | (dsimp only; walk1) | (leave1; walk_say "STEP leave1"; try dsimp only) | fail "no step")
  all_goals first
  | exact hret _ _ _ _ _ _ (by k_asm) (consN (by k_asm) (List.Mem.head _) (by first | exact sufN (by k_asm) [] rfl | exact sufN (by k_asm) [_] rfl | exact sufN (by k_asm) [_, _] rfl | exact sufN (by k_asm) [_, _, _] rfl | exact sufN (by k_asm) [_, _, _, _] rfl | exact sufN (by k_asm) [_, _, _, _, _] rfl | exact sufN (by k_asm) [_, _, _, _, _, _] rfl | exact sufN (by k_asm) [_, _, _, _, _, _, _] rfl | exact sufN (by k_asm) [_, _, _, _, _, _, _, _] rfl | exact sufN (by k_asm) [_, _, _, _, _, _, _, _, _] rfl | exact sufN (by k_asm) [_, _, _, _, _, _, _, _, _, _] rfl | exact sufN (by k_asm) [_, _, _, _, _, _, _, _, _, _, _] rfl | exact sufN (by k_asm) [_, _, _, _, _, _, _, _, _, _, _, _] rfl | exact sufN (by k_asm) [_, _, _, _, _, _, _, _, _, _, _, _, _] rfl | exact sufN (by k_asm) [_, _, _, _, _, _, _, _, _, _, _, _, _, _] rfl | exact sufN (by k_asm) [_, _, _, _, _, _, _, _, _, _, _, _, _, _, _] rfl)) (List.forall_mem_cons.mpr ⟨Nat.ne_of_lt (by assumption), neOfLt (by assumption)⟩)
  | skip
end
section

set_option maxRecDepth 100000 in
set_option maxHeartbeats 8000000 in
theorem itV_A (w : World) (mean mg mb) (h₀ : Heap) (L aL : Addr) (cd : Value) (m m₂ : Str → Option Value) (C : Addr) (oC w5 : Obj) (x d l : Addr) (T1 T2 T3 T4 T5 T6 T7 T8 T9 : Addr) (x1 x2 x3 y1 y2 y3 z1 z2 z3 : PA) (a1 b1 a2 b2 a3 b3 a4 b4 a5 b5 a6 b6 a7 b7 a8 b8 a9 b9 : Tok) (kh : Int) (kt tn : Tok) (led : List (Addr × Obj))
   (hC : PyProof.Rows.LCg.NsObj oC m₂) (hv : m₂ "name" = some (.str (Str.ofString "A") tn)) (d5 : w5.data = .cell (some (.ref x))) (mw5 : (L + 1 + 1 + 1 + 1 + 1, w5) ∈ led) (mx : (x, instObj 218 d) ∈ led) (md : (d, dictOf [⟨kh, .str (Str.ofString "_headers") kt, .ref l⟩] 1) ∈ led) (ml : (l, ({ cls := .type "list", data := .seq #[.ref T1, .ref T2, .ref T3, .ref T4, .ref T5, .ref T6, .ref T7, .ref T8, .ref T9] 9 } : Obj)) ∈ led) (me1 : (T1, ent (Str.ofString "a") x1 a1 b1) ∈ led) (me2 : (T2, ent (Str.ofString "b") y1 a2 b2) ∈ led) (me3 : (T3, ent (Str.ofString "C") z1 a3 b3) ∈ led) (me4 : (T4, ent (Str.ofString "a") x2 a4 b4) ∈ led) (me5 : (T5, ent (Str.ofString "B") y2 a5 b5) ∈ led) (me6 : (T6, ent (Str.ofString "c") z2 a6 b6) ∈ led) (me7 : (T7, ent (Str.ofString "A") x3 a7 b7) ∈ led) (me8 : (T8, ent (Str.ofString "B") y3 a8 b8) ∈ led) (me9 : (T9, ent (Str.ofString "C") z3 a9 b9) ∈ led) (s : Shared) (Q : Value → Shared → Prop) (E : Value → Shared → Prop)
   (B : Below callerA h₀ [] h₀) (X : (Mine.hd.heap_1 w.params).In h₀) (T : Top VW LO mean mg mb h₀) (F : Fr h₀ L s.heap m) (N : News h₀ L s.heap ((C, oC) :: led))
   (hret : ∀ D u1 u2 u3 h' tk', Fr h₀ L h' m → News h₀ L h' ((D, ({ cls := .type "list", data := .seq #[.str (Tx x1.2.1 x1.2.2.1 x1.2.2.2) u1, .str (Tx x2.2.1 x2.2.2.1 x2.2.2.2) u2, .str (Tx x3.2.1 x3.2.2.1 x3.2.2.2) u3] 3 } : Obj)) :: (C, oC) :: led) → Q (.ref D) { s with heap := h', toks := tk' }) :
    wpAny (model PySem.Challenge.rw_pg0251_01.row.prog w) (lawA w L aL cd) (eval (lcIter (lcV w) 0) (cE4 w L aL cd C)) Q E s := by
  w_on; revert X; k_fill; intro X
  k_dflt (show wpAny _ (callerA.deeper (envOfC _ (Scope.mk _ _ _ _ _) _ _ _)) (eval (.Call _ _ _ _) (compEnvC (Scope.mk _ _ _ _ _) _ _ (envOfC _ (Scope.mk _ _ _ _ _) _ _ _))) _ _ _)
  (try dsimp only); (try k_fold)
  repeat' (first | ((with_reducible show wpAny _ _ (call (Value.ref _) _ _) _ _ _); (k_here; k_dflt (refine' tell_use (get_tell_c _ _ _ _ _ _ _ _ _ _ _ _ _ _ _ _ _ _ _ _ _ _ _ _ _ _ _ _ _ _ _ _ _ _ _ _ _ _ _ _ _ _ _ _ _ _ _ ?zqhn0) ?zqB ?zqF ?zqX ?zqN ?zqT ?zqhk ?zqhd ?zqhu ?zqhs ?_; (case zqB => k_asm); (case zqF => k_asm); (case zqX => k_asm); (case zqN => k_asm); (case zqT => k_asm); (case zqhk => first | exact rfl | assumption); (case zqhd => ktr_room); (case zqhu => ktr_units); (case zqhs => k_subL); (case zqhn0 => exact noFind_c); k_whole); intro r9 tl9 h9 tk9 p9 k9 F9 N9 e9; obtain ⟨D9, u91, u92, u93, r9e, tl9e⟩ := p9; subst r9e; subst tl9e; (try simp only [List.cons_append, List.nil_append] at N9); (try simp only [NeAlls, NeAll, and_true, true_and, and_assoc] at e9); (repeat (have e8 := e9.1; replace e9 := e9.2)); (try k_sweep); (try dsimp only); (try k_fold))) | ((with_reducible show wpAny _ _ (call (Value.ref _) _ _) _ _ _); (k_here; k_dflt (refine' tell_use (get_tell_b _ _ _ _ _ _ _ _ _ _ _ _ _ _ _ _ _ _ _ _ _ _ _ _ _ _ _ _ _ _ _ _ _ _ _ _ _ _ _ _ _ _ _ _ _ _ _ ?zqhn0) ?zqB ?zqF ?zqX ?zqN ?zqT ?zqhk ?zqhd ?zqhu ?zqhs ?_; (case zqB => k_asm); (case zqF => k_asm); (case zqX => k_asm); (case zqN => k_asm); (case zqT => k_asm); (case zqhk => first | exact rfl | assumption); (case zqhd => ktr_room); (case zqhu => ktr_units); (case zqhs => k_subL); (case zqhn0 => exact noFind_b); k_whole); intro r9 tl9 h9 tk9 p9 k9 F9 N9 e9; obtain ⟨D9, u91, u92, u93, r9e, tl9e⟩ := p9; subst r9e; subst tl9e; (try simp only [List.cons_append, List.nil_append] at N9); (try simp only [NeAlls, NeAll, and_true, true_and, and_assoc] at e9); (repeat (have e8 := e9.1; replace e9 := e9.2)); (try k_sweep); (try dsimp only); (try k_fold))) | ((with_reducible show wpAny _ _ (call (Value.ref _) _ _) _ _ _); (k_here; k_dflt (refine' tell_use (get_tell_A _ _ _ _ _ _ _ _ _ _ _ _ _ _ _ _ _ _ _ _ _ _ _ _ _ _ _ _ _ _ _ _ _ _ _ _ _ _ _ _ _ _ _ _ _ _ _ ?zqhn0) ?zqB ?zqF ?zqX ?zqN ?zqT ?zqhk ?zqhd ?zqhu ?zqhs ?_; (case zqB => k_asm); (case zqF => k_asm); (case zqX => k_asm); (case zqN => k_asm); (case zqT => k_asm); (case zqhk => first | exact rfl | assumption); (case zqhd => ktr_room); (case zqhu => ktr_units); (case zqhs => k_subL); (case zqhn0 => exact noFind_a); k_whole); intro r9 tl9 h9 tk9 p9 k9 F9 N9 e9; obtain ⟨D9, u91, u92, u93, r9e, tl9e⟩ := p9; subst r9e; subst tl9e; (try simp only [List.cons_append, List.nil_append] at N9); (try simp only [NeAlls, NeAll, and_true, true_and, and_assoc] at e9); (repeat (have e8 := e9.1; replace e9 := e9.2)); (try k_sweep); (try dsimp only); (try k_fold))) | ((with_reducible show wpAny _ _ (eval (Expr.Name _ _) _) _ _ _); (k_here; k_dflt (first | (refine' nameX_L ?zqk1 ?zqk2 ?_; (case zqk1 => k_asm); (case zqk2 => assumption)) | (refine' nameX_C ?zqN ?zqc ?zqm ?zqd ?_ ?zqa ?zqb; (case zqa => rfl); (case zqb => rfl); (case zqN => k_asm); (case zqc => rfl); (case zqm => k_mem); (case zqd => assumption); k_whole)))) | ((with_reducible show wpAny _ _ (exec (Stmt.For (Expr.Name _ _) (Expr.Name _ _) _ _ _) _) _ _ _); (k_here; (rename Fr _ _ _ _ => lF'); (with_unfolding_all refine' For_turns lF' ?_; k_whole))) | ((with_reducible show wpAny _ _ (call (Value.builtin "list.insert") _ _) _ _ _); ((with_reducible show wpAny _ _ (call _ (_ ++ _)) _ _ _); dsimp only [List.cons_append, List.nil_append])) | ((with_reducible show wpAny _ _ (subscriptTail _ _ (Value.ref _) _) _ _ _); (k_here; (with_reducible show wpAny _ _ (subscriptTail _ _ (Value.ref _) (Value.int _ _)) _ _ _); k_dflt (refine' sub_any ?zqk1 ?zqk2 ?zqkh ?zqk3 ?zqk4 ?zqk5 ?_; (case zqk1 => k_asm); (case zqk2 => k_mem); (case zqkh => first | exact .inr ⟨_, rfl⟩ | exact .inl ⟨_, rfl⟩); (case zqk3 => decide); (case zqk4 => decide); (case zqk5 => rfl)))) | (k_unfold; (try dsimp only)) | (k_end; wrow_close) | (walk1 <;> (try dsimp only) <;> (try walk_at "mine split")) | (dsimp only; walk1) | (leave1; walk_say "STEP leave1"; try dsimp only) | fail "no step")
  all_goals first
  | exact hret _ _ _ _ _ _ (by k_asm) (consN (by k_asm) (List.Mem.head _) (by first | exact sufN (by k_asm) [] rfl | exact sufN (by k_asm) [_] rfl | exact sufN (by k_asm) [_, _] rfl | exact sufN (by k_asm) [_, _, _] rfl | exact sufN (by k_asm) [_, _, _, _] rfl | exact sufN (by k_asm) [_, _, _, _, _] rfl | exact sufN (by k_asm) [_, _, _, _, _, _] rfl | exact sufN (by k_asm) [_, _, _, _, _, _, _] rfl | exact sufN (by k_asm) [_, _, _, _, _, _, _, _] rfl | exact sufN (by k_asm) [_, _, _, _, _, _, _, _, _] rfl | exact sufN (by k_asm) [_, _, _, _, _, _, _, _, _, _] rfl | exact sufN (by k_asm) [_, _, _, _, _, _, _, _, _, _, _] rfl | exact sufN (by k_asm) [_, _, _, _, _, _, _, _, _, _, _, _] rfl | exact sufN (by k_asm) [_, _, _, _, _, _, _, _, _, _, _, _, _] rfl | exact sufN (by k_asm) [_, _, _, _, _, _, _, _, _, _, _, _, _, _] rfl | exact sufN (by k_asm) [_, _, _, _, _, _, _, _, _, _, _, _, _, _, _] rfl))
  | skip

set_option maxRecDepth 100000 in
set_option maxHeartbeats 8000000 in
theorem itV_b (w : World) (mean mg mb) (h₀ : Heap) (L aL : Addr) (cd : Value) (m m₂ : Str → Option Value) (C : Addr) (oC w5 : Obj) (x d l : Addr) (T1 T2 T3 T4 T5 T6 T7 T8 T9 : Addr) (x1 x2 x3 y1 y2 y3 z1 z2 z3 : PA) (a1 b1 a2 b2 a3 b3 a4 b4 a5 b5 a6 b6 a7 b7 a8 b8 a9 b9 : Tok) (kh : Int) (kt tn : Tok) (led : List (Addr × Obj))
   (hC : PyProof.Rows.LCg.NsObj oC m₂) (hv : m₂ "name" = some (.str (Str.ofString "b") tn)) (d5 : w5.data = .cell (some (.ref x))) (mw5 : (L + 1 + 1 + 1 + 1 + 1, w5) ∈ led) (mx : (x, instObj 218 d) ∈ led) (md : (d, dictOf [⟨kh, .str (Str.ofString "_headers") kt, .ref l⟩] 1) ∈ led) (ml : (l, ({ cls := .type "list", data := .seq #[.ref T1, .ref T2, .ref T3, .ref T4, .ref T5, .ref T6, .ref T7, .ref T8, .ref T9] 9 } : Obj)) ∈ led) (me1 : (T1, ent (Str.ofString "a") x1 a1 b1) ∈ led) (me2 : (T2, ent (Str.ofString "b") y1 a2 b2) ∈ led) (me3 : (T3, ent (Str.ofString "C") z1 a3 b3) ∈ led) (me4 : (T4, ent (Str.ofString "a") x2 a4 b4) ∈ led) (me5 : (T5, ent (Str.ofString "B") y2 a5 b5) ∈ led) (me6 : (T6, ent (Str.ofString "c") z2 a6 b6) ∈ led) (me7 : (T7, ent (Str.ofString "A") x3 a7 b7) ∈ led) (me8 : (T8, ent (Str.ofString "B") y3 a8 b8) ∈ led) (me9 : (T9, ent (Str.ofString "C") z3 a9 b9) ∈ led) (s : Shared) (Q : Value → Shared → Prop) (E : Value → Shared → Prop)
   (B : Below callerA h₀ [] h₀) (X : (Mine.hd.heap_1 w.params).In h₀) (T : Top VW LO mean mg mb h₀) (F : Fr h₀ L s.heap m) (N : News h₀ L s.heap ((C, oC) :: led))
   (hret : ∀ D u1 u2 u3 h' tk', Fr h₀ L h' m → News h₀ L h' ((D, ({ cls := .type "list", data := .seq #[.str (Tx y1.2.1 y1.2.2.1 y1.2.2.2) u1, .str (Tx y2.2.1 y2.2.2.1 y2.2.2.2) u2, .str (Tx y3.2.1 y3.2.2.1 y3.2.2.2) u3] 3 } : Obj)) :: (C, oC) :: led) → Q (.ref D) { s with heap := h', toks := tk' }) :
    wpAny (model PySem.Challenge.rw_pg0251_01.row.prog w) (lawA w L aL cd) (eval (lcIter (lcV w) 0) (cE4 w L aL cd C)) Q E s := by
  w_on; revert X; k_fill; intro X
  k_dflt (show wpAny _ (callerA.deeper (envOfC _ (Scope.mk _ _ _ _ _) _ _ _)) (eval (.Call _ _ _ _) (compEnvC (Scope.mk _ _ _ _ _) _ _ (envOfC _ (Scope.mk _ _ _ _ _) _ _ _))) _ _ _)
  (try dsimp only); (try k_fold)
  repeat' (first | ((with_reducible show wpAny _ _ (call (Value.ref _) _ _) _ _ _); (k_here; k_dflt (refine' tell_use (get_tell_c _ _ _ _ _ _ _ _ _ _ _ _ _ _ _ _ _ _ _ _ _ _ _ _ _ _ _ _ _ _ _ _ _ _ _ _ _ _ _ _ _ _ _ _ _ _ _ ?zqhn0) ?zqB ?zqF ?zqX ?zqN ?zqT ?zqhk ?zqhd ?zqhu ?zqhs ?_; (case zqB => k_asm); (case zqF => k_asm); (case zqX => k_asm); (case zqN => k_asm); (case zqT => k_asm); (case zqhk => first | exact rfl | assumption); (case zqhd => ktr_room); (case zqhu => ktr_units); (case zqhs => k_subL); (case zqhn0 => exact noFind_c); k_whole); intro r9 tl9 h9 tk9 p9 k9 F9 N9 e9; obtain ⟨D9, u91, u92, u93, r9e, tl9e⟩ := p9; subst r9e; subst tl9e; (try simp only [List.cons_append, List.nil_append] at N9); (try simp only [NeAlls, NeAll, and_true, true_and, and_assoc] at e9); (repeat (have e8 := e9.1; replace e9 := e9.2)); (try k_sweep); (try dsimp only); (try k_fold))) | ((with_reducible show wpAny _ _ (call (Value.ref _) _ _) _ _ _); (k_here; k_dflt (refine' tell_use (get_tell_b _ _ _ _ _ _ _ _ _ _ _ _ _ _ _ _ _ _ _ _ _ _ _ _ _ _ _ _ _ _ _ _ _ _ _ _ _ _ _ _ _ _ _ _ _ _ _ ?zqhn0) ?zqB ?zqF ?zqX ?zqN ?zqT ?zqhk ?zqhd ?zqhu ?zqhs ?_; (case zqB => k_asm); (case zqF => k_asm); (case zqX => k_asm); (case zqN => k_asm); (case zqT => k_asm); (case zqhk => first | exact rfl | assumption); (case zqhd => ktr_room); (case zqhu => ktr_units); (case zqhs => k_subL); (case zqhn0 => exact noFind_b); k_whole); intro r9 tl9 h9 tk9 p9 k9 F9 N9 e9; obtain ⟨D9, u91, u92, u93, r9e, tl9e⟩ := p9; subst r9e; subst tl9e; (try simp only [List.cons_append, List.nil_append] at N9); (try simp only [NeAlls, NeAll, and_true, true_and, and_assoc] at e9); (repeat (have e8 := e9.1; replace e9 := e9.2)); (try k_sweep); (try dsimp only); (try k_fold))) | ((with_reducible show wpAny _ _ (call (Value.ref _) _ _) _ _ _); (k_here; k_dflt (refine' tell_use (get_tell_A _ _ _ _ _ _ _ _ _ _ _ _ _ _ _ _ _ _ _ _ _ _ _ _ _ _ _ _ _ _ _ _ _ _ _ _ _ _ _ _ _ _ _ _ _ _ _ ?zqhn0) ?zqB ?zqF ?zqX ?zqN ?zqT ?zqhk ?zqhd ?zqhu ?zqhs ?_; (case zqB => k_asm); (case zqF => k_asm); (case zqX => k_asm); (case zqN => k_asm); (case zqT => k_asm); (case zqhk => first | exact rfl | assumption); (case zqhd => ktr_room); (case zqhu => ktr_units); (case zqhs => k_subL); (case zqhn0 => exact noFind_a); k_whole); intro r9 tl9 h9 tk9 p9 k9 F9 N9 e9; obtain ⟨D9, u91, u92, u93, r9e, tl9e⟩ := p9; subst r9e; subst tl9e; (try simp only [List.cons_append, List.nil_append] at N9); (try simp only [NeAlls, NeAll, and_true, true_and, and_assoc] at e9); (repeat (have e8 := e9.1; replace e9 := e9.2)); (try k_sweep); (try dsimp only); (try k_fold))) | ((with_reducible show wpAny _ _ (eval (Expr.Name _ _) _) _ _ _); (k_here; k_dflt (first | (refine' nameX_L ?zqk1 ?zqk2 ?_; (case zqk1 => k_asm); (case zqk2 => assumption)) | (refine' nameX_C ?zqN ?zqc ?zqm ?zqd ?_ ?zqa ?zqb; (case zqa => rfl); (case zqb => rfl); (case zqN => k_asm); (case zqc => rfl); (case zqm => k_mem); (case zqd => assumption); k_whole)))) | ((with_reducible show wpAny _ _ (exec (Stmt.For (Expr.Name _ _) (Expr.Name _ _) _ _ _) _) _ _ _); (k_here; (rename Fr _ _ _ _ => lF'); (with_unfolding_all refine' For_turns lF' ?_; k_whole))) | ((with_reducible show wpAny _ _ (call (Value.builtin "list.insert") _ _) _ _ _); ((with_reducible show wpAny _ _ (call _ (_ ++ _)) _ _ _); dsimp only [List.cons_append, List.nil_append])) | ((with_reducible show wpAny _ _ (subscriptTail _ _ (Value.ref _) _) _ _ _); (k_here; (with_reducible show wpAny _ _ (subscriptTail _ _ (Value.ref _) (Value.int _ _)) _ _ _); k_dflt (refine' sub_any ?zqk1 ?zqk2 ?zqkh ?zqk3 ?zqk4 ?zqk5 ?_; (case zqk1 => k_asm); (case zqk2 => k_mem); (case zqkh => first | exact .inr ⟨_, rfl⟩ | exact .inl ⟨_, rfl⟩); (case zqk3 => decide); (case zqk4 => decide); (case zqk5 => rfl)))) | (k_unfold; (try dsimp only)) | (k_end; wrow_close) | (walk1 <;> (try dsimp only) <;> (try walk_at "mine split")) | (dsimp only; walk1) | (leave1; walk_say "STEP leave1"; try dsimp only) | fail "no step")
  all_goals first
  | exact hret _ _ _ _ _ _ (by k_asm) (consN (by k_asm) (List.Mem.head _) (by first | exact sufN (by k_asm) [] rfl | exact sufN (by k_asm) [_] rfl | exact sufN (by k_asm) [_, _] rfl | exact sufN (by k_asm) [_, _, _] rfl | exact sufN (by k_asm) [_, _, _, _] rfl | exact sufN (by k_asm) [_, _, _, _, _] rfl | exact sufN (by k_asm) [_, _, _, _, _, _] rfl | exact sufN (by k_asm) [_, _, _, _, _, _, _] rfl | exact sufN (by k_asm) [_, _, _, _, _, _, _, _] rfl | exact sufN (by k_asm) [_, _, _, _, _, _, _, _, _] rfl | exact sufN (by k_asm) [_, _, _, _, _, _, _, _, _, _] rfl | exact sufN (by k_asm) [_, _, _, _, _, _, _, _, _, _, _] rfl | exact sufN (by k_asm) [_, _, _, _, _, _, _, _, _, _, _, _] rfl | exact sufN (by k_asm) [_, _, _, _, _, _, _, _, _, _, _, _, _] rfl | exact sufN (by k_asm) [_, _, _, _, _, _, _, _, _, _, _, _, _, _] rfl | exact sufN (by k_asm) [_, _, _, _, _, _, _, _, _, _, _, _, _, _, _] rfl))
  | skip

set_option maxRecDepth 100000 in
set_option maxHeartbeats 8000000 in
theorem itV_c (w : World) (mean mg mb) (h₀ : Heap) (L aL : Addr) (cd : Value) (m m₂ : Str → Option Value) (C : Addr) (oC w5 : Obj) (x d l : Addr) (T1 T2 T3 T4 T5 T6 T7 T8 T9 : Addr) (x1 x2 x3 y1 y2 y3 z1 z2 z3 : PA) (a1 b1 a2 b2 a3 b3 a4 b4 a5 b5 a6 b6 a7 b7 a8 b8 a9 b9 : Tok) (kh : Int) (kt tn : Tok) (led : List (Addr × Obj))
   (hC : PyProof.Rows.LCg.NsObj oC m₂) (hv : m₂ "name" = some (.str (Str.ofString "c") tn)) (d5 : w5.data = .cell (some (.ref x))) (mw5 : (L + 1 + 1 + 1 + 1 + 1, w5) ∈ led) (mx : (x, instObj 218 d) ∈ led) (md : (d, dictOf [⟨kh, .str (Str.ofString "_headers") kt, .ref l⟩] 1) ∈ led) (ml : (l, ({ cls := .type "list", data := .seq #[.ref T1, .ref T2, .ref T3, .ref T4, .ref T5, .ref T6, .ref T7, .ref T8, .ref T9] 9 } : Obj)) ∈ led) (me1 : (T1, ent (Str.ofString "a") x1 a1 b1) ∈ led) (me2 : (T2, ent (Str.ofString "b") y1 a2 b2) ∈ led) (me3 : (T3, ent (Str.ofString "C") z1 a3 b3) ∈ led) (me4 : (T4, ent (Str.ofString "a") x2 a4 b4) ∈ led) (me5 : (T5, ent (Str.ofString "B") y2 a5 b5) ∈ led) (me6 : (T6, ent (Str.ofString "c") z2 a6 b6) ∈ led) (me7 : (T7, ent (Str.ofString "A") x3 a7 b7) ∈ led) (me8 : (T8, ent (Str.ofString "B") y3 a8 b8) ∈ led) (me9 : (T9, ent (Str.ofString "C") z3 a9 b9) ∈ led) (s : Shared) (Q : Value → Shared → Prop) (E : Value → Shared → Prop)
   (B : Below callerA h₀ [] h₀) (X : (Mine.hd.heap_1 w.params).In h₀) (T : Top VW LO mean mg mb h₀) (F : Fr h₀ L s.heap m) (N : News h₀ L s.heap ((C, oC) :: led))
   (hret : ∀ D u1 u2 u3 h' tk', Fr h₀ L h' m → News h₀ L h' ((D, ({ cls := .type "list", data := .seq #[.str (Tx z1.2.1 z1.2.2.1 z1.2.2.2) u1, .str (Tx z2.2.1 z2.2.2.1 z2.2.2.2) u2, .str (Tx z3.2.1 z3.2.2.1 z3.2.2.2) u3] 3 } : Obj)) :: (C, oC) :: led) → Q (.ref D) { s with heap := h', toks := tk' }) :
    wpAny (model PySem.Challenge.rw_pg0251_01.row.prog w) (lawA w L aL cd) (eval (lcIter (lcV w) 0) (cE4 w L aL cd C)) Q E s := by
  w_on; revert X; k_fill; intro X
  k_dflt (show wpAny _ (callerA.deeper (envOfC _ (Scope.mk _ _ _ _ _) _ _ _)) (eval (.Call _ _ _ _) (compEnvC (Scope.mk _ _ _ _ _) _ _ (envOfC _ (Scope.mk _ _ _ _ _) _ _ _))) _ _ _)
  (try dsimp only); (try k_fold)
  repeat' (first | ((with_reducible show wpAny _ _ (call (Value.ref _) _ _) _ _ _); (k_here; k_dflt (refine' tell_use (get_tell_c _ _ _ _ _ _ _ _ _ _ _ _ _ _ _ _ _ _ _ _ _ _ _ _ _ _ _ _ _ _ _ _ _ _ _ _ _ _ _ _ _ _ _ _ _ _ _ ?zqhn0) ?zqB ?zqF ?zqX ?zqN ?zqT ?zqhk ?zqhd ?zqhu ?zqhs ?_; (case zqB => k_asm); (case zqF => k_asm); (case zqX => k_asm); (case zqN => k_asm); (case zqT => k_asm); (case zqhk => first | exact rfl | assumption); (case zqhd => ktr_room); (case zqhu => ktr_units); (case zqhs => k_subL); (case zqhn0 => exact noFind_c); k_whole); intro r9 tl9 h9 tk9 p9 k9 F9 N9 e9; obtain ⟨D9, u91, u92, u93, r9e, tl9e⟩ := p9; subst r9e; subst tl9e; (try simp only [List.cons_append, List.nil_append] at N9); (try simp only [NeAlls, NeAll, and_true, true_and, and_assoc] at e9); (repeat (have e8 := e9.1; replace e9 := e9.2)); (try k_sweep); (try dsimp only); (try k_fold))) | ((with_reducible show wpAny _ _ (call (Value.ref _) _ _) _ _ _); (k_here; k_dflt (refine' tell_use (get_tell_b _ _ _ _ _ _ _ _ _ _ _ _ _ _ _ _ _ _ _ _ _ _ _ _ _ _ _ _ _ _ _ _ _ _ _ _ _ _ _ _ _ _ _ _ _ _ _ ?zqhn0) ?zqB ?zqF ?zqX ?zqN ?zqT ?zqhk ?zqhd ?zqhu ?zqhs ?_; (case zqB => k_asm); (case zqF => k_asm); (case zqX => k_asm); (case zqN => k_asm); (case zqT => k_asm); (case zqhk => first | exact rfl | assumption); (case zqhd => ktr_room); (case zqhu => ktr_units); (case zqhs => k_subL); (case zqhn0 => exact noFind_b); k_whole); intro r9 tl9 h9 tk9 p9 k9 F9 N9 e9; obtain ⟨D9, u91, u92, u93, r9e, tl9e⟩ := p9; subst r9e; subst tl9e; (try simp only [List.cons_append, List.nil_append] at N9); (try simp only [NeAlls, NeAll, and_true, true_and, and_assoc] at e9); (repeat (have e8 := e9.1; replace e9 := e9.2)); (try k_sweep); (try dsimp only); (try k_fold))) | ((with_reducible show wpAny _ _ (call (Value.ref _) _ _) _ _ _); (k_here; k_dflt (refine' tell_use (get_tell_A _ _ _ _ _ _ _ _ _ _ _ _ _ _ _ _ _ _ _ _ _ _ _ _ _ _ _ _ _ _ _ _ _ _ _ _ _ _ _ _ _ _ _ _ _ _ _ ?zqhn0) ?zqB ?zqF ?zqX ?zqN ?zqT ?zqhk ?zqhd ?zqhu ?zqhs ?_; (case zqB => k_asm); (case zqF => k_asm); (case zqX => k_asm); (case zqN => k_asm); (case zqT => k_asm); (case zqhk => first | exact rfl | assumption); (case zqhd => ktr_room); (case zqhu => ktr_units); (case zqhs => k_subL); (case zqhn0 => exact noFind_a); k_whole); intro r9 tl9 h9 tk9 p9 k9 F9 N9 e9; obtain ⟨D9, u91, u92, u93, r9e, tl9e⟩ := p9; subst r9e; subst tl9e; (try simp only [List.cons_append, List.nil_append] at N9); (try simp only [NeAlls, NeAll, and_true, true_and, and_assoc] at e9); (repeat (have e8 := e9.1; replace e9 := e9.2)); (try k_sweep); (try dsimp only); (try k_fold))) | ((with_reducible show wpAny _ _ (eval (Expr.Name _ _) _) _ _ _); (k_here; k_dflt (first | (refine' nameX_L ?zqk1 ?zqk2 ?_; (case zqk1 => k_asm); (case zqk2 => assumption)) | (refine' nameX_C ?zqN ?zqc ?zqm ?zqd ?_ ?zqa ?zqb; (case zqa => rfl); (case zqb => rfl); (case zqN => k_asm); (case zqc => rfl); (case zqm => k_mem); (case zqd => assumption); k_whole)))) | ((with_reducible show wpAny _ _ (exec (Stmt.For (Expr.Name _ _) (Expr.Name _ _) _ _ _) _) _ _ _); (k_here; (rename Fr _ _ _ _ => lF'); (with_unfolding_all refine' For_turns lF' ?_; k_whole))) | ((with_reducible show wpAny _ _ (call (Value.builtin "list.insert") _ _) _ _ _); ((with_reducible show wpAny _ _ (call _ (_ ++ _)) _ _ _); dsimp only [List.cons_append, List.nil_append])) | ((with_reducible show wpAny _ _ (subscriptTail _ _ (Value.ref _) _) _ _ _); (k_here; (with_reducible show wpAny _ _ (subscriptTail _ _ (Value.ref _) (Value.int _ _)) _ _ _); k_dflt (refine' sub_any ?zqk1 ?zqk2 ?zqkh ?zqk3 ?zqk4 ?zqk5 ?_; (case zqk1 => k_asm); (case zqk2 => k_mem); (case zqkh => first | exact .inr ⟨_, rfl⟩ | exact .inl ⟨_, rfl⟩); (case zqk3 => decide); (case zqk4 => decide); (case zqk5 => rfl)))) | (k_unfold; (try dsimp only)) | (k_end; wrow_close) | (walk1 <;> (try dsimp only) <;> (try walk_at "mine split")) | (dsimp only; walk1) | (leave1; walk_say "STEP leave1"; try dsimp only) | fail "no step")
  all_goals first
  | exact hret _ _ _ _ _ _ (by k_asm) (consN (by k_asm) (List.Mem.head _) (by first | exact sufN (by k_asm) [] rfl | exact sufN (by k_asm) [_] rfl | exact sufN (by k_asm) [_, _] rfl | exact sufN (by k_asm) [_, _, _] rfl | exact sufN (by k_asm) [_, _, _, _] rfl | exact sufN (by k_asm) [_, _, _, _, _] rfl | exact sufN (by k_asm) [_, _, _, _, _, _] rfl | exact sufN (by k_asm) [_, _, _, _, _, _, _] rfl | exact sufN (by k_asm) [_, _, _, _, _, _, _, _] rfl | exact sufN (by k_asm) [_, _, _, _, _, _, _, _, _] rfl | exact sufN (by k_asm) [_, _, _, _, _, _, _, _, _, _] rfl | exact sufN (by k_asm) [_, _, _, _, _, _, _, _, _, _, _] rfl | exact sufN (by k_asm) [_, _, _, _, _, _, _, _, _, _, _, _] rfl | exact sufN (by k_asm) [_, _, _, _, _, _, _, _, _, _, _, _, _] rfl | exact sufN (by k_asm) [_, _, _, _, _, _, _, _, _, _, _, _, _, _] rfl | exact sufN (by k_asm) [_, _, _, _, _, _, _, _, _, _, _, _, _, _, _] rfl))
  | skip
end
section
open PyProof.Rows.LCg
theorem lcV_eq (w : World) : ∃ p, lcV w = .ListComp (lcElt (lcV w)) [⟨.Name (Str.ofString "value") p, lcIter (lcV w) 0, [], 0⟩] (lcScope (lcV w)) (lcPos (lcV w)) := ⟨_, rfl⟩
/-- the texts of one pot, as get_all gives them -/
noncomputable def ItV (w : World) (h₀ : Heap) (L aL : Addr) (cd : Value) (m : Str → Option Value) (C : Addr) (oC : Obj) (led : List (Addr × Obj)) (p1 p2 p3 : PA) : Prop := ∀ (s : Shared) (Q E : Value → Shared → Prop), Fr h₀ L s.heap m → News h₀ L s.heap ((C, oC) :: led) →
   (∀ D u1 u2 u3 h' tk', Fr h₀ L h' m → News h₀ L h' ((D, ({ cls := .type "list", data := .seq #[.str (Tx p1.2.1 p1.2.2.1 p1.2.2.2) u1, .str (Tx p2.2.1 p2.2.2.1 p2.2.2.2) u2, .str (Tx p3.2.1 p3.2.2.1 p3.2.2.2) u3] 3 } : Obj)) :: (C, oC) :: led) → Q (.ref D) { s with heap := h', toks := tk' }) →
   wpAny (model PySem.Challenge.rw_pg0251_01.row.prog w) (lawA w L aL cd) (eval (lcIter (lcV w) 0) (cE4 w L aL cd C)) Q E s
/-- what one turn over a pot's texts makes -/
noncomputable def TupP (x : PA) (base : List (Addr × Obj)) (y : Value) (no : List (Addr × Obj)) : Prop := ∃ T u1 u2 u3, y = .ref T ∧ no = [(T, tup3 x.2.1 x.2.2.1 x.2.2.2 u1 u2 u3)] ∧ ∀ p ∈ base, p.1 ≠ T
theorem potC (w : World) (mean mg mb) {h₀ : Heap} {L aL C : Addr} {cd : Value} {m : Str → Option Value} {led : List (Addr × Obj)} {oC : Obj} {p1 p2 p3 : PA} {s : Shared} {Q : Value → Shared → Prop} {E : Value → Shared → Prop}
    (B : Below callerA h₀ [] h₀) (X : (Mine.hd.heap_1 w.params).In h₀) (T : Top VW LO mean mg mb h₀) (F : Fr h₀ L s.heap m) (N : News h₀ L s.heap ((C, oC) :: led)) (i1 : In8 p1.2.1 p1.2.2.1 p1.2.2.2) (i2 : In8 p2.2.1 p2.2.2.1 p2.2.2.2) (i3 : In8 p3.2.1 p3.2.2.1 p3.2.2.2) (hit : ItV w h₀ L aL cd m C oC led p1 p2 p3)
    (hret : ∀ D T1 T2 T3 u1 u2 u3 u4 u5 u6 u7 u8 u9 h' tk', Fr h₀ L h' m → News h₀ L h' ((D, lst [.ref T1, .ref T2, .ref T3]) :: ((C, oC) :: led ++ [(T1, tup3 p1.2.1 p1.2.2.1 p1.2.2.2 u1 u2 u3), (T2, tup3 p2.2.1 p2.2.2.1 p2.2.2.2 u4 u5 u6), (T3, tup3 p3.2.1 p3.2.2.1 p3.2.2.2 u7 u8 u9)])) → (∀ p ∈ (C, oC) :: led, p.1 ≠ D ∧ p.1 ≠ T1 ∧ p.1 ≠ T2 ∧ p.1 ≠ T3) → Q (.ref D) { s with heap := h', toks := tk' }) :
    wpAny (model PySem.Challenge.rw_pg0251_01.row.prog w) (lawA w L aL cd) (eval (lcV w) (cE4 w L aL cd C)) Q E s := by
  obtain ⟨px, el⟩ := lcV_eq w
  rw [el]
  refine one_comp (env := cE4 w L aL cd C) (base := (C, oC) :: led) (cl := []) (m := m) (h₀ := h₀) (L := L) (closV w L aL cd C) (by rw [lcV_names]; decide) (by rfl) (by rw [lcV_names]; decide) (by rw [lcV_names]; decide) ?_ (by intro _; rfl)
  refine hit s _ _ F N fun Dl v1 v2 v3 h₁ tk₁ F₁ N₁ => ?_
  have hl : h₁.IsList Dl #[.str (Tx p1.2.1 p1.2.2.1 p1.2.2.2) v1, .str (Tx p2.2.1 p2.2.2.1 p2.2.2.2) v2, .str (Tx p3.2.1 p3.2.2.1 p3.2.2.2) v3] := ⟨_, (N₁ _ (.head _)).1, rfl, _, rfl⟩
  refine ⟨3, _, _, fun i y no => TupP (([p1, p2, p3] : List PA).getD i p1) ((C, oC) :: led) y no, Source.list (by rfl) hl, Nat.le_of_ble_eq_true rfl, fun a ha => by rw [List.mem_singleton.mp ha]; exact (N₁ _ (.head _)).2.1, F₁, fun q hq => N₁ q (.tail _ hq), ?_, ?_⟩
  · intro i v hi hv C' oC' m₂ h tk led' E' hC hmv F N hb hbC
    have pick : ∃ (x : PA) (u : Tok), v = .str (Tx x.2.1 x.2.2.1 x.2.2.2) u ∧ In8 x.2.1 x.2.2.1 x.2.2.2 ∧ ([p1, p2, p3] : List PA).getD i p1 = x := by
      rcases lt3 hi with rfl | rfl | rfl
      · exact ⟨p1, v1, (Option.some.inj hv).symm, i1, rfl⟩
      · exact ⟨p2, v2, (Option.some.inj hv).symm, i2, rfl⟩
      · exact ⟨p3, v3, (Option.some.inj hv).symm, i3, rfl⟩
    obtain ⟨x, u, rfl, hx, e⟩ := pick
    refine elV w mean mg mb h₀ L aL cd m m₂ C C' oC' _ _ _ u led' hC hmv hx { s with heap := h, toks := tk } _ _ B X T F N fun D u1 u2 u3 h' tk' F' N' ne => ?_
    exact ⟨[(D, tup3 x.2.1 x.2.2.1 x.2.2.2 u1 u2 u3)], h', tk', rfl, F', N', fun q hq p hp => by rw [List.mem_singleton.mp hq]; exact ne p hp, D, u1, u2, u3, rfl, by rw [e], fun p hp => ne p (.tail _ (hb p hp))⟩
  · intro D ys objs h' tk' F' N' off md
    obtain ⟨ys3, ob3, v3', n3, ey3, eo3, e2, T3, u7, u8, u9, ry3, rn3, o3⟩ := md.inv
    obtain ⟨ys2, ob2, v2', n2, ey2, eo2, e1, T2, u4, u5, u6, ry2, rn2, o2⟩ := e2.inv
    obtain ⟨ys1, ob1, v1', n1, ey1, eo1, e0, T1, u1, u2, u3, ry1, rn1, o1⟩ := e1.inv
    obtain ⟨ey0, eo0⟩ := e0.inv0
    have EY : ys = [.ref T1, .ref T2, .ref T3] := by
      rw [ey3, ey2, ey1, ey0, ry1, ry2, ry3]
      rfl
    have EO : objs = [(T1, tup3 p1.2.1 p1.2.2.1 p1.2.2.2 u1 u2 u3), (T2, tup3 p2.2.1 p2.2.2.1 p2.2.2.2 u4 u5 u6), (T3, tup3 p3.2.1 p3.2.2.1 p3.2.2.2 u7 u8 u9)] := by
      rw [eo3, eo2, eo1, eo0, rn1, rn2, rn3]
      rfl
    rw [EY, EO] at N'
    exact hret D T1 T2 T3 u1 u2 u3 u4 u5 u6 u7 u8 u9 h' tk' F' N' fun p hp => ⟨off p (List.mem_append_left _ hp), o1 p hp, o2 p hp, o3 p hp⟩
theorem sgnAbc {i : Nat} {v : Value} (hi : i < 3) (h : SignAt (Str.ofString "Abc") i v) : ∃ u, (i = 0 ∧ v = .str (Str.ofString "A") u) ∨ (i = 1 ∧ v = .str (Str.ofString "b") u) ∨ (i = 2 ∧ v = .str (Str.ofString "c") u) := by
  obtain ⟨c, u, hc, rfl⟩ := h
  rcases lt3 hi with rfl | rfl | rfl
  · have e := Option.some.inj (hc.symm.trans (show (Str.ofString "Abc").cps[0]? = some 65 by decide +kernel))
    subst e
    exact ⟨u, .inl ⟨rfl, by rw [show Str.ofString "A" = ⟨#[65]⟩ by decide +kernel]⟩⟩
  · have e := Option.some.inj (hc.symm.trans (show (Str.ofString "Abc").cps[1]? = some 98 by decide +kernel))
    subst e
    exact ⟨u, .inr (.inl ⟨rfl, by rw [show Str.ofString "b" = ⟨#[98]⟩ by decide +kernel]⟩)⟩
  · have e := Option.some.inj (hc.symm.trans (show (Str.ofString "Abc").cps[2]? = some 99 by decide +kernel))
    subst e
    exact ⟨u, .inr (.inr ⟨rfl, by rw [show Str.ofString "c" = ⟨#[99]⟩ by decide +kernel]⟩)⟩
theorem st4 (w : World) : ∃ p sp, (fnBody (lawO w)).getD 4 (.Pass default) = .Assign [.Name (Str.ofString "read") p] (lc4 w) sp ∧ ∀ L aL cd, swapsWith (lc4 w) (some (.Name (Str.ofString "read") p)) sp.line (lawE w L aL cd) = pure true := ⟨_, _, rfl, fun _ _ _ => rfl⟩
theorem lc4_eq (w : World) : ∃ p, lc4 w = .ListComp (lcV w) [⟨.Name (Str.ofString "name") p, lcIter (lc4 w) 0, [], 0⟩] (lcScope (lc4 w)) (lcPos (lc4 w)) := ⟨_, rfl⟩
/-- what one turn of read makes -/
noncomputable def PotP (P : List PA) (y : Value) (no : List (Addr × Obj)) : Prop := ∃ q P', y = .ref q ∧ PotIn no q P' ∧ P'.map (·.2) = P.map (·.2)
theorem pot_turn (w : World) (mean mg mb) {h₀ : Heap} {L aL : Addr} {cd : Value} {m : Str → Option Value} {base : List (Addr × Obj)} {p1 p2 p3 : PA} {n : Str} {u : Tok} {s : Shared}
    (B : Below callerA h₀ [] h₀) (X : (Mine.hd.heap_1 w.params).In h₀) (T : Top VW LO mean mg mb h₀) (i1 : In8 p1.2.1 p1.2.2.1 p1.2.2.2) (i2 : In8 p2.2.1 p2.2.2.1 p2.2.2.2) (i3 : In8 p3.2.1 p3.2.2.1 p3.2.2.2)
    (hit : ∀ C oC m₂ led, NsObj oC m₂ → m₂ "name" = some (.str n u) → (∀ p ∈ base, p ∈ led) → ItV w h₀ L aL cd m C oC led p1 p2 p3) :
    EltTurn PySem.Challenge.rw_pg0251_01.row.prog w (lawA w L aL cd) h₀ L m base (lcV w) (Str.ofString "name") (lcScope (lc4 w)) (clo4 L) (lawE w L aL cd) s (PotP [p1, p2, p3]) (.str n u) := by
  intro C oC m₂ h tk led E' hC hmv F N hb hbC
  refine potC w mean mg mb (s := { s with heap := h, toks := tk }) B X T F N i1 i2 i3 (hit C oC m₂ led hC hmv hb) fun D T1 T2 T3 u1 u2 u3 u4 u5 u6 u7 u8 u9 h' tk' F' N' off => ?_
  refine ⟨[(D, lst [.ref T1, .ref T2, .ref T3]), (T1, tup3 p1.2.1 p1.2.2.1 p1.2.2.2 u1 u2 u3), (T2, tup3 p2.2.1 p2.2.2.1 p2.2.2.2 u4 u5 u6), (T3, tup3 p3.2.1 p3.2.2.1 p3.2.2.2 u7 u8 u9)], h', tk', rfl, F', subM N' fun p hp => ?_, fun q hq p hp => ?_, D, [(T1, p1.2), (T2, p2.2), (T3, p3.2)], rfl, ⟨3, (T1, p1.2), (T2, p2.2), (T3, p3.2), rfl, .head _, ⟨i1, u1, u2, u3, .tail _ (.head _)⟩, ⟨i2, u4, u5, u6, .tail _ (.tail _ (.head _))⟩, ⟨i3, u7, u8, u9, .tail _ (.tail _ (.tail _ (.head _)))⟩⟩, rfl⟩
  · rcases List.mem_append.mp hp with hp | hp
    · rcases List.mem_cons.mp hp with rfl | hp
      · exact .head _
      · exact .tail _ (List.mem_append_right _ hp)
    · exact .tail _ (List.mem_append_left _ hp)
  · obtain ⟨c0, c1, c2, c3⟩ := off p hp
    rcases List.mem_cons.mp hq with rfl | hq
    · exact c0
    rcases List.mem_cons.mp hq with rfl | hq
    · exact c1
    rcases List.mem_cons.mp hq with rfl | hq
    · exact c2
    rcases List.mem_cons.mp hq with rfl | hq
    · exact c3
    · cases hq
theorem PotP.mono {P : List PA} {y : Value} {no objs : List (Addr × Obj)} (h : PotP P y no) (hs : ∀ q ∈ no, q ∈ objs) : ∃ q P', y = .ref q ∧ PotIn objs q P' ∧ P'.map (·.2) = P.map (·.2) := by
  obtain ⟨q, P', e, p, f⟩ := h
  exact ⟨q, P', e, p.mono hs, f⟩
/-- read -/
theorem s4 (w : World) (mean mg mb) {h₀ : Heap} {L aL x d l T1 T2 T3 T4 T5 T6 T7 T8 T9 : Addr} {cd : Value} {m : Str → Option Value} {base : List (Addr × Obj)} {w5 : Obj} {x1 x2 x3 y1 y2 y3 z1 z2 z3 : PA} {a1 b1 a2 b2 a3 b3 a4 b4 a5 b5 a6 b6 a7 b7 a8 b8 a9 b9 : Tok} {kh : Int} {kt : Tok} {s : Shared} {Q : Flow → Shared → Prop} {E : Value → Shared → Prop}
    (B : Below callerA h₀ [] h₀) (X : (Mine.hd.heap_1 w.params).In h₀) (T : Top VW LO mean mg mb h₀) (F : Fr h₀ L s.heap m) (N : News h₀ L s.heap base) (d5 : w5.data = .cell (some (.ref x))) (mw5 : (L + 1 + 1 + 1 + 1 + 1, w5) ∈ base) (mx : (x, instObj 218 d) ∈ base) (md : (d, dictOf [⟨kh, .str (Str.ofString "_headers") kt, .ref l⟩] 1) ∈ base) (ml : (l, ({ cls := .type "list", data := .seq #[.ref T1, .ref T2, .ref T3, .ref T4, .ref T5, .ref T6, .ref T7, .ref T8, .ref T9] 9 } : Obj)) ∈ base) (me1 : (T1, ent (Str.ofString "a") x1 a1 b1) ∈ base) (me2 : (T2, ent (Str.ofString "b") y1 a2 b2) ∈ base) (me3 : (T3, ent (Str.ofString "C") z1 a3 b3) ∈ base) (me4 : (T4, ent (Str.ofString "a") x2 a4 b4) ∈ base) (me5 : (T5, ent (Str.ofString "B") y2 a5 b5) ∈ base) (me6 : (T6, ent (Str.ofString "c") z2 a6 b6) ∈ base) (me7 : (T7, ent (Str.ofString "A") x3 a7 b7) ∈ base) (me8 : (T8, ent (Str.ofString "B") y3 a8 b8) ∈ base) (me9 : (T9, ent (Str.ofString "C") z3 a9 b9) ∈ base) (ix1 : In8 x1.2.1 x1.2.2.1 x1.2.2.2) (ix2 : In8 x2.2.1 x2.2.2.1 x2.2.2.2) (ix3 : In8 x3.2.1 x3.2.2.1 x3.2.2.2) (iy1 : In8 y1.2.1 y1.2.2.1 y1.2.2.2) (iy2 : In8 y2.2.1 y2.2.2.1 y2.2.2.2) (iy3 : In8 y3.2.1 y3.2.2.1 y3.2.2.2) (iz1 : In8 z1.2.1 z1.2.2.1 z1.2.2.2) (iz2 : In8 z2.2.1 z2.2.2.1 z2.2.2.2) (iz3 : In8 z3.2.1 z3.2.2.1 z3.2.2.2)
    (hret : ∀ (D q1 q2 q3 : Addr) (P1 P2 P3 : List PA) objs h' tk', Fr h₀ L h' (fun u => if u = Str.ofString "read" then some (.ref D) else m u) → News h₀ L h' (rdObj D q1 q2 q3 3 :: (base ++ objs)) → PotIn objs q1 P1 → PotIn objs q2 P2 → PotIn objs q3 P3 → P1.map (·.2) = ([x1, x2, x3] : List PA).map (·.2) → P2.map (·.2) = ([y1, y2, y3] : List PA).map (·.2) → P3.map (·.2) = ([z1, z2, z3] : List PA).map (·.2) → Q .next { s with heap := h', toks := tk' }) :
    wpAny (model PySem.Challenge.rw_pg0251_01.row.prog w) (lawA w L aL cd) (exec ((fnBody (lawO w)).getD 4 (.Pass default)) (lawE w L aL cd)) Q E s := by
  obtain ⟨p, sp, e, hsw⟩ := st4 w
  obtain ⟨pv, el⟩ := lc4_eq w
  have hsw' := hsw L aL cd
  rw [e]
  rw [el] at hsw' ⊢
  refine one_assign (env := lawE w L aL cd) (base := base) (cl := clo4 L) (m := m) (h₀ := h₀) hsw' (clos4 w L aL cd) (by rw [lc4_names]; decide) (by rfl) (by rw [lc4_names]; decide) (by rw [lc4_names]; decide) (by rfl) (by rfl) ?_ (by intro _; rfl)
  refine it4 w mean mg mb h₀ L aL cd m base s _ _ B X T F N fun u h₁ tk₁ F₁ N₁ => ?_
  refine ⟨3, _, _, fun i y no => PotP (([[x1, x2, x3], [y1, y2, y3], [z1, z2, z3]] : List (List PA)).getD i []) y no, Source.ascii (by rfl) (by decide +kernel), Nat.le_of_ble_eq_true rfl, (fun a ha => nomatch ha), F₁, N₁, ?_, ?_⟩
  · intro i v hi hv
    obtain ⟨u, ⟨rfl, rfl⟩ | ⟨rfl, rfl⟩ | ⟨rfl, rfl⟩⟩ := sgnAbc hi hv
    · refine pot_turn w mean mg mb B X T ix1 ix2 ix3 fun C oC m₂ led hC h1 hb => ?_
      intro s' Q' E' F' N' k
      exact itV_A w mean mg mb h₀ L aL cd m m₂ C oC w5 x d l T1 T2 T3 T4 T5 T6 T7 T8 T9 x1 x2 x3 y1 y2 y3 z1 z2 z3 a1 b1 a2 b2 a3 b3 a4 b4 a5 b5 a6 b6 a7 b7 a8 b8 a9 b9 kh kt u led hC h1 d5 (hb _ mw5) (hb _ mx) (hb _ md) (hb _ ml) (hb _ me1) (hb _ me2) (hb _ me3) (hb _ me4) (hb _ me5) (hb _ me6) (hb _ me7) (hb _ me8) (hb _ me9) s' Q' E' B X T F' N' k
    · refine pot_turn w mean mg mb B X T iy1 iy2 iy3 fun C oC m₂ led hC h1 hb => ?_
      intro s' Q' E' F' N' k
      exact itV_b w mean mg mb h₀ L aL cd m m₂ C oC w5 x d l T1 T2 T3 T4 T5 T6 T7 T8 T9 x1 x2 x3 y1 y2 y3 z1 z2 z3 a1 b1 a2 b2 a3 b3 a4 b4 a5 b5 a6 b6 a7 b7 a8 b8 a9 b9 kh kt u led hC h1 d5 (hb _ mw5) (hb _ mx) (hb _ md) (hb _ ml) (hb _ me1) (hb _ me2) (hb _ me3) (hb _ me4) (hb _ me5) (hb _ me6) (hb _ me7) (hb _ me8) (hb _ me9) s' Q' E' B X T F' N' k
    · refine pot_turn w mean mg mb B X T iz1 iz2 iz3 fun C oC m₂ led hC h1 hb => ?_
      intro s' Q' E' F' N' k
      exact itV_c w mean mg mb h₀ L aL cd m m₂ C oC w5 x d l T1 T2 T3 T4 T5 T6 T7 T8 T9 x1 x2 x3 y1 y2 y3 z1 z2 z3 a1 b1 a2 b2 a3 b3 a4 b4 a5 b5 a6 b6 a7 b7 a8 b8 a9 b9 kh kt u led hC h1 d5 (hb _ mw5) (hb _ mx) (hb _ md) (hb _ ml) (hb _ me1) (hb _ me2) (hb _ me3) (hb _ me4) (hb _ me5) (hb _ me6) (hb _ me7) (hb _ me8) (hb _ me9) s' Q' E' B X T F' N' k
  · intro D ys objs h' tk' F' N' off md
    obtain ⟨ys3, ob3, v3, n3, ey3, eo3, e2, f3⟩ := md.inv
    obtain ⟨ys2, ob2, v2, n2, ey2, eo2, e1, f2⟩ := e2.inv
    obtain ⟨ys1, ob1, v1, n1, ey1, eo1, e0, f1⟩ := e1.inv
    obtain ⟨ey0, eo0⟩ := e0.inv0
    obtain ⟨q1, P1, rq1, g1, k1⟩ := f1.mono (objs := [] ++ n1 ++ n2 ++ n3) (fun q hq => List.mem_append_left _ (List.mem_append_left _ (List.mem_append_right _ hq)))
    obtain ⟨q2, P2, rq2, g2, k2⟩ := f2.mono (objs := [] ++ n1 ++ n2 ++ n3) (fun q hq => List.mem_append_left _ (List.mem_append_right _ hq))
    obtain ⟨q3, P3, rq3, g3, k3⟩ := f3.mono (objs := [] ++ n1 ++ n2 ++ n3) (fun q hq => List.mem_append_right _ hq)
    have EY : ys = [.ref q1, .ref q2, .ref q3] := by
      rw [ey3, ey2, ey1, ey0, rq1, rq2, rq3]
      rfl
    have EO : objs = [] ++ n1 ++ n2 ++ n3 := by rw [eo3, eo2, eo1, eo0]
    rw [EY, EO] at N'
    exact hret D q1 q2 q3 P1 P2 P3 _ h' tk' F' N' g1 g2 g3 k1 k2 k3
end
section
open PyProof.Rows.LCg
theorem st3 (w : World) : ∃ p sp, (fnBody (lawO w)).getD 3 (.Pass default) = .Assign [.Name (Str.ofString "table") p] (assignVal ((fnBody (lawO w)).getD 3 (.Pass default))) sp ∧ ∀ L aL cd, swapsWith (assignVal ((fnBody (lawO w)).getD 3 (.Pass default))) (some (.Name (Str.ofString "table") p)) sp.line (lawE w L aL cd) = pure false := ⟨_, _, rfl, fun _ _ _ => rfl⟩
theorem entData {n : Str} {x : PA} {u1 u2 : Tok} {v : Option Value} {o : Obj} (h : o.data = .cell v) : (ent n x u1 u2).data ≠ o.data := fun e => by
  rw [h] at e; cases e
/-- the table's entries -/
noncomputable abbrev entL (T1 T2 T3 T4 T5 T6 T7 T8 T9 : Addr) (x1 x2 x3 y1 y2 y3 z1 z2 z3 : PA) (a1 b1 a2 b2 a3 b3 a4 b4 a5 b5 a6 b6 a7 b7 a8 b8 a9 b9 : Tok) : List (Addr × Obj) := [(T1, ent (Str.ofString "a") x1 a1 b1), (T2, ent (Str.ofString "b") y1 a2 b2), (T3, ent (Str.ofString "C") z1 a3 b3), (T4, ent (Str.ofString "a") x2 a4 b4), (T5, ent (Str.ofString "B") y2 a5 b5), (T6, ent (Str.ofString "c") z2 a6 b6), (T7, ent (Str.ofString "A") x3 a7 b7), (T8, ent (Str.ofString "B") y3 a8 b8), (T9, ent (Str.ofString "C") z3 a9 b9)]
/-- table -/
theorem s3 (w : World) (mean mg mb) {h₀ : Heap} {L aL q1 q2 q3 pt : Addr} {cd : Value} {m : Str → Option Value} {kt k1 k2 k3 : Nat} {x1 x2 x3 y1 y2 y3 z1 z2 z3 : PA} {oP w5 : Obj} {v5 : Option Value} {led : List (Addr × Obj)} {s : Shared} {Q : Flow → Shared → Prop} {E : Value → Shared → Prop}
    (B : Below callerA h₀ [] h₀) (X : (Mine.hd.heap_1 w.params).In h₀) (T : Top VW LO mean mg mb h₀) (F : Fr h₀ L s.heap m) (N : News h₀ L s.heap ((L + 1 + 1 + 1 + 1 + 1, w5) :: led)) (off : ∀ p ∈ led, p.1 ≠ L + 1 + 1 + 1 + 1 + 1) (d5 : w5.data = .cell v5)
    (hP : oP.data = .cell (some (.ref pt))) (mP : (L + 1, oP) ∈ led) (mt : rdObj pt q1 q2 q3 kt ∈ led) (mq1 : rdObj q1 x1.1 x2.1 x3.1 k1 ∈ led) (mq2 : rdObj q2 y1.1 y2.1 y3.1 k2 ∈ led) (mq3 : rdObj q3 z1.1 z2.1 z3.1 k3 ∈ led) (hx1 : PIn led x1) (hx2 : PIn led x2) (hx3 : PIn led x3) (hy1 : PIn led y1) (hy2 : PIn led y2) (hy3 : PIn led y3) (hz1 : PIn led z1) (hz2 : PIn led z2) (hz3 : PIn led z3)
    (hret : ∀ (w5' : Obj) (l x d T1 T2 T3 T4 T5 T6 T7 T8 T9 : Addr) (kh : Int) (kt : Tok) (a1 b1 a2 b2 a3 b3 a4 b4 a5 b5 a6 b6 a7 b7 a8 b8 a9 b9 : Tok) h' tk', Fr h₀ L h' m → w5'.data = .cell (some (.ref x)) → News h₀ L h' ((L + 1 + 1 + 1 + 1 + 1, w5') :: (x, instObj 218 d) :: (d, dictOf [⟨kh, .str (Str.ofString "_headers") kt, .ref l⟩] 1) :: (l, ({ cls := .type "list", data := .seq #[.ref T1, .ref T2, .ref T3, .ref T4, .ref T5, .ref T6, .ref T7, .ref T8, .ref T9] 9 } : Obj)) :: (led ++ entL T1 T2 T3 T4 T5 T6 T7 T8 T9 x1 x2 x3 y1 y2 y3 z1 z2 z3 a1 b1 a2 b2 a3 b3 a4 b4 a5 b5 a6 b6 a7 b7 a8 b8 a9 b9)) → Q .next { s with heap := h', toks := tk' }) :
    wpAny (model PySem.Challenge.rw_pg0251_01.row.prog w) (lawA w L aL cd) (exec ((fnBody (lawO w)).getD 3 (.Pass default)) (lawE w L aL cd)) Q E s := by
  obtain ⟨p, sp, e, hsw⟩ := st3 w
  rw [e]
  have up : ∀ {q : PA}, PIn led q → PIn ((L + 1 + 1 + 1 + 1 + 1, w5) :: led) q := fun h => h.mono fun _ hp => .tail _ hp
  refine wpAny_Assign_Name (s3e w mean mg mb h₀ L aL cd m q1 q2 q3 pt kt k1 k2 k3 x1 x2 x3 y1 y2 y3 z1 z2 z3 oP ((L + 1 + 1 + 1 + 1 + 1, w5) :: led) hP (.tail _ mP) (.tail _ mt) (.tail _ mq1) (.tail _ mq2) (.tail _ mq3) (up hx1) (up hx2) (up hx3) (up hy1) (up hy2) (up hy3) (up hz1) (up hz2) (up hz3) s _ E B X T F N fun l x d T1 T2 T3 T4 T5 T6 T7 T8 T9 kh kt' a1 b1 a2 b2 a3 b3 a4 b4 a5 b5 a6 b6 a7 b7 a8 b8 a9 b9 h₁ tk₁ F₁ N₁ off₁ => ?_) (hsw _ _ _)
  have mc : (L + 1 + 1 + 1 + 1 + 1, w5) ∈ (x, instObj 218 d) :: (d, dictOf [⟨kh, .str (Str.ofString "_headers") kt', .ref l⟩] 1) :: (l, ({ cls := .type "list", data := .seq #[.ref T1, .ref T2, .ref T3, .ref T4, .ref T5, .ref T6, .ref T7, .ref T8, .ref T9] 9 } : Obj)) :: ((L + 1 + 1 + 1 + 1 + 1, w5) :: led ++ entL T1 T2 T3 T4 T5 T6 T7 T8 T9 x1 x2 x3 y1 y2 y3 z1 z2 z3 a1 b1 a2 b2 a3 b3 a4 b4 a5 b5 a6 b6 a7 b7 a8 b8 a9 b9) := .tail _ (.tail _ (.tail _ (.head _)))
  have N₂ : News h₀ L h₁ ((L + 1 + 1 + 1 + 1 + 1, w5) :: (x, instObj 218 d) :: (d, dictOf [⟨kh, .str (Str.ofString "_headers") kt', .ref l⟩] 1) :: (l, ({ cls := .type "list", data := .seq #[.ref T1, .ref T2, .ref T3, .ref T4, .ref T5, .ref T6, .ref T7, .ref T8, .ref T9] 9 } : Obj)) :: (led ++ entL T1 T2 T3 T4 T5 T6 T7 T8 T9 x1 x2 x3 y1 y2 y3 z1 z2 z3 a1 b1 a2 b2 a3 b3 a4 b4 a5 b5 a6 b6 a7 b7 a8 b8 a9 b9)) := fun p hp => N₁ p (by
    rcases List.mem_cons.mp hp with rfl | hp
    · exact mc
    rcases List.mem_cons.mp hp with rfl | hp
    · exact .head _
    rcases List.mem_cons.mp hp with rfl | hp
    · exact .tail _ (.head _)
    rcases List.mem_cons.mp hp with rfl | hp
    · exact .tail _ (.tail _ (.head _))
    · exact .tail _ (.tail _ (.tail _ (.tail _ hp))))
  have oe : ∀ p ∈ entL T1 T2 T3 T4 T5 T6 T7 T8 T9 x1 x2 x3 y1 y2 y3 z1 z2 z3 a1 b1 a2 b2 a3 b3 a4 b4 a5 b5 a6 b6 a7 b7 a8 b8 a9 b9, p.1 ≠ L + 1 + 1 + 1 + 1 + 1 := fun p hp => by
    have hm := List.mem_append_right ((L + 1 + 1 + 1 + 1 + 1, w5) :: led) hp
    have hd : ∃ xs n, p.2.data = .seq xs n := by
      rcases List.mem_cons.mp hp with rfl | hp
      · exact ⟨_, _, rfl⟩
      rcases List.mem_cons.mp hp with rfl | hp
      · exact ⟨_, _, rfl⟩
      rcases List.mem_cons.mp hp with rfl | hp
      · exact ⟨_, _, rfl⟩
      rcases List.mem_cons.mp hp with rfl | hp
      · exact ⟨_, _, rfl⟩
      rcases List.mem_cons.mp hp with rfl | hp
      · exact ⟨_, _, rfl⟩
      rcases List.mem_cons.mp hp with rfl | hp
      · exact ⟨_, _, rfl⟩
      rcases List.mem_cons.mp hp with rfl | hp
      · exact ⟨_, _, rfl⟩
      rcases List.mem_cons.mp hp with rfl | hp
      · exact ⟨_, _, rfl⟩
      rcases List.mem_cons.mp hp with rfl | hp
      · exact ⟨_, _, rfl⟩
      · cases hp
    obtain ⟨xs, n, hd⟩ := hd
    exact neData (a := p.1) (o := p.2) N₁ (.tail _ (.tail _ (.tail _ hm))) mc (by rw [hd, d5]; exact fun e => nomatch e)
  have ob := off₁ _ (.head _)
  refine storeCell (c := L + 1 + 1 + 1 + 1 + 1) (by rfl) (by rfl) F₁ N₂ (fun p hp => ?_) d5 fun h₂ w5' F₂ N₃ d5' => hret w5' l x d T1 T2 T3 T4 T5 T6 T7 T8 T9 kh kt' a1 b1 a2 b2 a3 b3 a4 b4 a5 b5 a6 b6 a7 b7 a8 b8 a9 b9 h₂ _ F₂ d5' N₃
  rcases List.mem_cons.mp hp with rfl | hp
  · exact Ne.symm ob.1
  rcases List.mem_cons.mp hp with rfl | hp
  · exact Ne.symm ob.2.1
  rcases List.mem_cons.mp hp with rfl | hp
  · exact Ne.symm ob.2.2
  rcases List.mem_append.mp hp with hp | hp
  · exact off p hp
  · exact oe p hp
end
section
open PyProof.Rows.LCg
theorem PotG.congr {P P' : List PA} (h : P'.map (·.2) = P.map (·.2)) (g : PotG P) : PotG P' := by
  obtain ⟨p1, p2, p3, rfl, r⟩ := g
  rcases P' with _ | ⟨a, _ | ⟨b, _ | ⟨c, _ | ⟨d, l⟩⟩⟩⟩
  · exact absurd (congrArg List.length h) (by simp)
  · exact absurd (congrArg List.length h) (by simp)
  · exact absurd (congrArg List.length h) (by simp)
  · injection h with h1 h
    injection h with h2 h
    injection h with h3 _
    refine ⟨a, b, c, rfl, ?_⟩
    rw [show a.2 = p1.2 from h1, show b.2 = p2.2 from h2, show c.2 = p3.2 from h3]
    exact r
  · exact absurd (congrArg List.length h) (by simp)
theorem law_all (w : World) : fnBody (lawO w) = (fnBody (lawO w)).getD 0 (.Pass default) :: (fnBody (lawO w)).getD 1 (.Pass default) :: (fnBody (lawO w)).getD 2 (.Pass default) :: (fnBody (lawO w)).getD 3 (.Pass default) :: (fnBody (lawO w)).getD 4 (.Pass default) :: (fnBody (lawO w)).drop 5 := rfl
theorem ents_mem (base : List (Addr × Obj)) {T1 T2 T3 T4 T5 T6 T7 T8 T9 : Addr} {x1 x2 x3 y1 y2 y3 z1 z2 z3 : PA} {a1 b1 a2 b2 a3 b3 a4 b4 a5 b5 a6 b6 a7 b7 a8 b8 a9 b9 : Tok} : (∀ p ∈ entL T1 T2 T3 T4 T5 T6 T7 T8 T9 x1 x2 x3 y1 y2 y3 z1 z2 z3 a1 b1 a2 b2 a3 b3 a4 b4 a5 b5 a6 b6 a7 b7 a8 b8 a9 b9, p ∈ base) → (T1, ent (Str.ofString "a") x1 a1 b1) ∈ base ∧ (T2, ent (Str.ofString "b") y1 a2 b2) ∈ base ∧ (T3, ent (Str.ofString "C") z1 a3 b3) ∈ base ∧ (T4, ent (Str.ofString "a") x2 a4 b4) ∈ base ∧ (T5, ent (Str.ofString "B") y2 a5 b5) ∈ base ∧ (T6, ent (Str.ofString "c") z2 a6 b6) ∈ base ∧ (T7, ent (Str.ofString "A") x3 a7 b7) ∈ base ∧ (T8, ent (Str.ofString "B") y3 a8 b8) ∈ base ∧ (T9, ent (Str.ofString "C") z3 a9 b9) ∈ base := fun h => ⟨h _ (.head _), h _ (.tail _ (.head _)), h _ (.tail _ (.tail _ (.head _))), h _ (.tail _ (.tail _ (.tail _ (.head _)))), h _ (.tail _ (.tail _ (.tail _ (.tail _ (.head _))))), h _ (.tail _ (.tail _ (.tail _ (.tail _ (.tail _ (.head _)))))), h _ (.tail _ (.tail _ (.tail _ (.tail _ (.tail _ (.tail _ (.head _))))))), h _ (.tail _ (.tail _ (.tail _ (.tail _ (.tail _ (.tail _ (.tail _ (.head _)))))))), h _ (.tail _ (.tail _ (.tail _ (.tail _ (.tail _ (.tail _ (.tail _ (.tail _ (.head _)))))))))⟩
theorem neCell {L pt : Nat} (h : L + 1 + 1 + 1 + 1 + 1 < pt) : pt ≠ L + 1 + 1 + 1 + 1 + 1 := by omega
set_option maxHeartbeats 4000000 in
/-- the body of law -/
theorem law_body (w : World) (mean mg mb) {h₀ : Heap} {L aL a : Addr} {cd : Value} {m : Str → Option Value} {vs : List Value} {ns : List Int} {w1 w2 w3 w4 w5 : Obj} {v1 v2 v3 v4 v5 : Option Value} {s : Shared} {Q : Flow → Shared → Prop} {E : Value → Shared → Prop}
    (B : Below callerA h₀ [] h₀) (X : (Mine.hd.heap_1 w.params).In h₀) (T : Top VW LO mean mg mb h₀) (hpo : PassesOwn (model PySem.Challenge.rw_pg0251_01.row.prog w) (lawA w L aL cd) (lawE w L aL cd) E) (F : Fr h₀ L s.heap m) (N : News h₀ L s.heap (CL L w1 w2 w3 w4 w5))
    (d1 : w1.data = .cell v1) (d2 : w2.data = .cell v2) (d3 : w3.data = .cell v3) (d4 : w4.data = .cell v4) (d5 : w5.data = .cell v5) (hm : m "script" = some (.ref a)) (hL : h₀.IsList a vs.toArray) (hI : IntsAre vs ns) (h63 : ns.length ≤ 63)
    (c : ∀ m' h' tk', Fr h₀ L h' m' → Q (.ret (.bool true)) { s with heap := h', toks := tk' }) :
    wpAny (model PySem.Challenge.rw_pg0251_01.row.prog w) (lawA w L aL cd) (execs (fnBody (lawO w)) (lawE w L aL cd)) Q E s := by
  rw [law_all]
  refine wpAny_execs_cons (s0 w mean mg mb B X T F N hm hL hI h63 fun D p1 p2 p3 p4 p5 p6 objs h1 tk1 F1 N1 q1 q2 q3 q4 q5 q6 => ?_)
  obtain ⟨i1, a1, b1, c1, m1⟩ := q1
  obtain ⟨i2, a2, b2, c2, m2⟩ := q2
  obtain ⟨i3, a3, b3, c3, m3⟩ := q3
  obtain ⟨i4, a4, b4, c4, m4⟩ := q4
  obtain ⟨i5, a5, b5, c5, m5⟩ := q5
  obtain ⟨i6, a6, b6, c6, m6⟩ := q6
  have sq : SQ [(D, lst [.ref p1.1, .ref p2.1, .ref p3.1, .ref p4.1, .ref p5.1, .ref p6.1]), (p1.1, tup3 p1.2.1 p1.2.2.1 p1.2.2.2 a1 b1 c1), (p2.1, tup3 p2.2.1 p2.2.2.1 p2.2.2.2 a2 b2 c2), (p3.1, tup3 p3.2.1 p3.2.2.1 p3.2.2.2 a3 b3 c3), (p4.1, tup3 p4.2.1 p4.2.2.1 p4.2.2.2 a4 b4 c4), (p5.1, tup3 p5.2.1 p5.2.2.1 p5.2.2.2 a5 b5 c5), (p6.1, tup3 p6.2.1 p6.2.2.1 p6.2.2.2 a6 b6 c6)] := .cons ⟨_, _, rfl⟩ (.inl rfl) (.cons ⟨_, _, rfl⟩ (.inr rfl) (.cons ⟨_, _, rfl⟩ (.inr rfl) (.cons ⟨_, _, rfl⟩ (.inr rfl) (.cons ⟨_, _, rfl⟩ (.inr rfl) (.cons ⟨_, _, rfl⟩ (.inr rfl) (.cons ⟨_, _, rfl⟩ (.inr rfl) (fun _ h => nomatch h)))))))
  have hs : ∀ p ∈ [(D, lst [.ref p1.1, .ref p2.1, .ref p3.1, .ref p4.1, .ref p5.1, .ref p6.1]), (p1.1, tup3 p1.2.1 p1.2.2.1 p1.2.2.2 a1 b1 c1), (p2.1, tup3 p2.2.1 p2.2.2.1 p2.2.2.2 a2 b2 c2), (p3.1, tup3 p3.2.1 p3.2.2.1 p3.2.2.2 a3 b3 c3), (p4.1, tup3 p4.2.1 p4.2.2.1 p4.2.2.2 a4 b4 c4), (p5.1, tup3 p5.2.1 p5.2.2.1 p5.2.2.2 a5 b5 c5), (p6.1, tup3 p6.2.1 p6.2.2.1 p6.2.2.2 a6 b6 c6)], p ∈ (D, lst [.ref p1.1, .ref p2.1, .ref p3.1, .ref p4.1, .ref p5.1, .ref p6.1]) :: (CL L w1 w2 w3 w4 w5 ++ objs) := (allC (.head _) (allC (.tail _ (List.mem_append_right _ m1)) (allC (.tail _ (List.mem_append_right _ m2)) (allC (.tail _ (List.mem_append_right _ m3)) (allC (.tail _ (List.mem_append_right _ m4)) (allC (.tail _ (List.mem_append_right _ m5)) (allC (.tail _ (List.mem_append_right _ m6)) (fun p hp => nomatch hp))))))))
  have N1' : News h₀ L h1 (CL L w1 w2 w3 w4 w5 ++ [(D, lst [.ref p1.1, .ref p2.1, .ref p3.1, .ref p4.1, .ref p5.1, .ref p6.1]), (p1.1, tup3 p1.2.1 p1.2.2.1 p1.2.2.2 a1 b1 c1), (p2.1, tup3 p2.2.1 p2.2.2.1 p2.2.2.2 a2 b2 c2), (p3.1, tup3 p3.2.1 p3.2.2.1 p3.2.2.2 a3 b3 c3), (p4.1, tup3 p4.2.1 p4.2.2.1 p4.2.2.2 a4 b4 c4), (p5.1, tup3 p5.2.1 p5.2.2.1 p5.2.2.2 a5 b5 c5), (p6.1, tup3 p6.2.1 p6.2.2.1 p6.2.2.2 a6 b6 c6)]) := subM N1 fun p hp => by
    rcases List.mem_append.mp hp with hp | hp
    · exact .tail _ (List.mem_append_left _ hp)
    · exact hs p hp
  have k1 : DIn [(D, lst [.ref p1.1, .ref p2.1, .ref p3.1, .ref p4.1, .ref p5.1, .ref p6.1]), (p1.1, tup3 p1.2.1 p1.2.2.1 p1.2.2.2 a1 b1 c1), (p2.1, tup3 p2.2.1 p2.2.2.1 p2.2.2.2 a2 b2 c2), (p3.1, tup3 p3.2.1 p3.2.2.1 p3.2.2.2 a3 b3 c3), (p4.1, tup3 p4.2.1 p4.2.2.1 p4.2.2.2 a4 b4 c4), (p5.1, tup3 p5.2.1 p5.2.2.1 p5.2.2.2 a5 b5 c5), (p6.1, tup3 p6.2.1 p6.2.2.1 p6.2.2.2 a6 b6 c6)] p1 := ⟨i1, a1, b1, c1, .tail _ (.head _)⟩
  have k2 : DIn [(D, lst [.ref p1.1, .ref p2.1, .ref p3.1, .ref p4.1, .ref p5.1, .ref p6.1]), (p1.1, tup3 p1.2.1 p1.2.2.1 p1.2.2.2 a1 b1 c1), (p2.1, tup3 p2.2.1 p2.2.2.1 p2.2.2.2 a2 b2 c2), (p3.1, tup3 p3.2.1 p3.2.2.1 p3.2.2.2 a3 b3 c3), (p4.1, tup3 p4.2.1 p4.2.2.1 p4.2.2.2 a4 b4 c4), (p5.1, tup3 p5.2.1 p5.2.2.1 p5.2.2.2 a5 b5 c5), (p6.1, tup3 p6.2.1 p6.2.2.1 p6.2.2.2 a6 b6 c6)] p2 := ⟨i2, a2, b2, c2, .tail _ (.tail _ (.head _))⟩
  have k3 : DIn [(D, lst [.ref p1.1, .ref p2.1, .ref p3.1, .ref p4.1, .ref p5.1, .ref p6.1]), (p1.1, tup3 p1.2.1 p1.2.2.1 p1.2.2.2 a1 b1 c1), (p2.1, tup3 p2.2.1 p2.2.2.1 p2.2.2.2 a2 b2 c2), (p3.1, tup3 p3.2.1 p3.2.2.1 p3.2.2.2 a3 b3 c3), (p4.1, tup3 p4.2.1 p4.2.2.1 p4.2.2.2 a4 b4 c4), (p5.1, tup3 p5.2.1 p5.2.2.1 p5.2.2.2 a5 b5 c5), (p6.1, tup3 p6.2.1 p6.2.2.1 p6.2.2.2 a6 b6 c6)] p3 := ⟨i3, a3, b3, c3, .tail _ (.tail _ (.tail _ (.head _)))⟩
  have k4 : DIn [(D, lst [.ref p1.1, .ref p2.1, .ref p3.1, .ref p4.1, .ref p5.1, .ref p6.1]), (p1.1, tup3 p1.2.1 p1.2.2.1 p1.2.2.2 a1 b1 c1), (p2.1, tup3 p2.2.1 p2.2.2.1 p2.2.2.2 a2 b2 c2), (p3.1, tup3 p3.2.1 p3.2.2.1 p3.2.2.2 a3 b3 c3), (p4.1, tup3 p4.2.1 p4.2.2.1 p4.2.2.2 a4 b4 c4), (p5.1, tup3 p5.2.1 p5.2.2.1 p5.2.2.2 a5 b5 c5), (p6.1, tup3 p6.2.1 p6.2.2.1 p6.2.2.2 a6 b6 c6)] p4 := ⟨i4, a4, b4, c4, .tail _ (.tail _ (.tail _ (.tail _ (.head _))))⟩
  have k5 : DIn [(D, lst [.ref p1.1, .ref p2.1, .ref p3.1, .ref p4.1, .ref p5.1, .ref p6.1]), (p1.1, tup3 p1.2.1 p1.2.2.1 p1.2.2.2 a1 b1 c1), (p2.1, tup3 p2.2.1 p2.2.2.1 p2.2.2.2 a2 b2 c2), (p3.1, tup3 p3.2.1 p3.2.2.1 p3.2.2.2 a3 b3 c3), (p4.1, tup3 p4.2.1 p4.2.2.1 p4.2.2.2 a4 b4 c4), (p5.1, tup3 p5.2.1 p5.2.2.1 p5.2.2.2 a5 b5 c5), (p6.1, tup3 p6.2.1 p6.2.2.1 p6.2.2.2 a6 b6 c6)] p5 := ⟨i5, a5, b5, c5, .tail _ (.tail _ (.tail _ (.tail _ (.tail _ (.head _)))))⟩
  have k6 : DIn [(D, lst [.ref p1.1, .ref p2.1, .ref p3.1, .ref p4.1, .ref p5.1, .ref p6.1]), (p1.1, tup3 p1.2.1 p1.2.2.1 p1.2.2.2 a1 b1 c1), (p2.1, tup3 p2.2.1 p2.2.2.1 p2.2.2.2 a2 b2 c2), (p3.1, tup3 p3.2.1 p3.2.2.1 p3.2.2.2 a3 b3 c3), (p4.1, tup3 p4.2.1 p4.2.2.1 p4.2.2.2 a4 b4 c4), (p5.1, tup3 p5.2.1 p5.2.2.1 p5.2.2.2 a5 b5 c5), (p6.1, tup3 p6.2.1 p6.2.2.1 p6.2.2.2 a6 b6 c6)] p6 := ⟨i6, a6, b6, c6, .tail _ (.tail _ (.tail _ (.tail _ (.tail _ (.tail _ (.head _))))))⟩
  have mD : (D, lst [.ref p1.1, .ref p2.1, .ref p3.1, .ref p4.1, .ref p5.1, .ref p6.1]) ∈ [(D, lst [.ref p1.1, .ref p2.1, .ref p3.1, .ref p4.1, .ref p5.1, .ref p6.1]), (p1.1, tup3 p1.2.1 p1.2.2.1 p1.2.2.2 a1 b1 c1), (p2.1, tup3 p2.2.1 p2.2.2.1 p2.2.2.2 a2 b2 c2), (p3.1, tup3 p3.2.1 p3.2.2.1 p3.2.2.2 a3 b3 c3), (p4.1, tup3 p4.2.1 p4.2.2.1 p4.2.2.2 a4 b4 c4), (p5.1, tup3 p5.2.1 p5.2.2.1 p5.2.2.2 a5 b5 c5), (p6.1, tup3 p6.2.1 p6.2.2.1 p6.2.2.2 a6 b6 c6)] := .head _
  generalize [(D, lst [.ref p1.1, .ref p2.1, .ref p3.1, .ref p4.1, .ref p5.1, .ref p6.1]), (p1.1, tup3 p1.2.1 p1.2.2.1 p1.2.2.2 a1 b1 c1), (p2.1, tup3 p2.2.1 p2.2.2.1 p2.2.2.2 a2 b2 c2), (p3.1, tup3 p3.2.1 p3.2.2.1 p3.2.2.2 a3 b3 c3), (p4.1, tup3 p4.2.1 p4.2.2.1 p4.2.2.2 a4 b4 c4), (p5.1, tup3 p5.2.1 p5.2.2.1 p5.2.2.2 a5 b5 c5), (p6.1, tup3 p6.2.1 p6.2.2.1 p6.2.2.2 a6 b6 c6)] = led at sq hs N1' k1 k2 k3 k4 k5 k6 mD
  have in1 : ∀ p ∈ led, p ∈ CL L w1 w2 w3 w4 w5 ++ led := fun p hp => List.mem_append_right _ hp
  have o1 := sq.off N1' in1 (c := L + 1) (o := w1) (.tail _ (.tail _ (.tail _ (.tail _ (.head _))))) d1
  have o2 := sq.off N1' in1 (c := L + 1 + 1) (o := w2) (.tail _ (.tail _ (.tail _ (.head _)))) d2
  have o3 := sq.off N1' in1 (c := L + 1 + 1 + 1) (o := w3) (.tail _ (.tail _ (.head _))) d3
  have o4 := sq.off N1' in1 (c := L + 1 + 1 + 1 + 1) (o := w4) (.tail _ (.head _)) d4
  have o5 := sq.off N1' in1 (c := L + 1 + 1 + 1 + 1 + 1) (o := w5) (.head _) d5
  obtain ⟨e01, e02, e03, e04, e10, e12, e13, e14, e20, e21, e23, e24, e30, e31, e32, e34, e40, e41, e42, e43⟩ := near5 L
  refine wpAny_execs_cons (s1b w mean mg mb h₀ L aL cd _ w1 w2 w3 w4 w5 v1 led d1 o1 o2 o3 o4 o5 e01 e02 e03 e04 e10 e12 e13 e14 e20 e21 e23 e24 e30 e31 e32 e34 e40 e41 e42 e43 _ _ _ B X T F1 N1' fun pt w1' h2 tk2 F2 d1' N2 off2 hpt => ?_)
  have N2' : News h₀ L h2 (CL L w1' w2 w3 w4 w5 ++ tObj pt [] 0 :: led) := subM N2 fun p hp => by
    rcases List.mem_append.mp hp with hp | hp
    · exact .tail _ (List.mem_append_left (as := CL L w1' w2 w3 w4 w5) led hp)
    rcases List.mem_cons.mp hp with rfl | hp
    · exact .head _
    · exact .tail _ (List.mem_append_right (CL L w1' w2 w3 w4 w5) hp)
  refine wpAny_execs_cons (s2 w mean mg mb B X T hpo F2 N2' d1' d2 d3 d4 d5 sq (fun p hp => off2 p (List.mem_append_right (CL L w1' w2 w3 w4 w5) hp)) hpt (if_pos rfl) mD k1 k2 k3 k4 k5 k6
    fun u1 u2 u3 u4 u5 g2 g3 g4 g5 r1 r2 r3 X₂ Y₂ Z₂ k led' h3 tk3 F3 N3 f1 f5 sq' op' px gx py gy pz gz => ?_)
  have px' := px
  have py' := py
  have pz' := pz
  obtain ⟨k1', x1, x2, x3, rfl, mq1, hx1, hx2, hx3⟩ := px'
  obtain ⟨k2', y1, y2, y3, rfl, mq2, hy1, hy2, hy3⟩ := py'
  obtain ⟨k3', z1, z2, z3, rfl, mq3, hz1, hz2, hz3⟩ := pz'
  have o3' := sq'.off N3 (fun p hp => List.mem_append_right _ (.tail _ hp)) (c := L + 1 + 1 + 1 + 1 + 1) (o := u5) (.head _) f5
  have up3 : ∀ p ∈ led', p ∈ (L + 1 + 1 + 1 + 1, u4) :: (L + 1 + 1 + 1, u3) :: (L + 1 + 1, u2) :: (L + 1, u1) :: rdObj pt r1 r2 r3 k :: led' := fun p hp => .tail _ (.tail _ (.tail _ (.tail _ (.tail _ hp))))
  have off3 : ∀ p ∈ (L + 1 + 1 + 1 + 1, u4) :: (L + 1 + 1 + 1, u3) :: (L + 1 + 1, u2) :: (L + 1, u1) :: rdObj pt r1 r2 r3 k :: led', p.1 ≠ L + 1 + 1 + 1 + 1 + 1 := (allC e34 (allC e24 (allC e14 (allC e04 (allC (neCell hpt) o3')))))
  have mP : (L + 1, u1) ∈ (L + 1 + 1 + 1 + 1, u4) :: (L + 1 + 1 + 1, u3) :: (L + 1 + 1, u2) :: (L + 1, u1) :: rdObj pt r1 r2 r3 k :: led' := .tail _ (.tail _ (.tail _ (.head _)))
  have mt : rdObj pt r1 r2 r3 k ∈ (L + 1 + 1 + 1 + 1, u4) :: (L + 1 + 1 + 1, u3) :: (L + 1 + 1, u2) :: (L + 1, u1) :: rdObj pt r1 r2 r3 k :: led' := .tail _ (.tail _ (.tail _ (.tail _ (.head _))))
  have N3' : News h₀ L h3 ((L + 1 + 1 + 1 + 1 + 1, u5) :: ((L + 1 + 1 + 1 + 1, u4) :: (L + 1 + 1 + 1, u3) :: (L + 1 + 1, u2) :: (L + 1, u1) :: rdObj pt r1 r2 r3 k :: led')) := N3
  generalize (L + 1 + 1 + 1 + 1, u4) :: (L + 1 + 1 + 1, u3) :: (L + 1 + 1, u2) :: (L + 1, u1) :: rdObj pt r1 r2 r3 k :: led' = led3 at up3 off3 mP mt N3'
  refine wpAny_execs_cons (s3 w mean mg mb B X T F3 N3' off3 f5 f1 mP mt (up3 _ mq1) (up3 _ mq2) (up3 _ mq3) (hx1.mono up3) (hx2.mono up3) (hx3.mono up3) (hy1.mono up3) (hy2.mono up3) (hy3.mono up3) (hz1.mono up3) (hz2.mono up3) (hz3.mono up3) fun w5' l x d T1 T2 T3 T4 T5 T6 T7 T8 T9 kh kt a1 b1 a2 b2 a3 b3 a4 b4 a5 b5 a6 b6 a7 b7 a8 b8 a9 b9 h4 tk4 F4 d5' N4 => ?_)
  obtain ⟨me1, me2, me3, me4, me5, me6, me7, me8, me9⟩ := ents_mem ((L + 1 + 1 + 1 + 1 + 1, w5') :: (x, instObj 218 d) :: (d, dictOf [⟨kh, .str (Str.ofString "_headers") kt, .ref l⟩] 1) :: (l, ({ cls := .type "list", data := .seq #[.ref T1, .ref T2, .ref T3, .ref T4, .ref T5, .ref T6, .ref T7, .ref T8, .ref T9] 9 } : Obj)) :: (led3 ++ entL T1 T2 T3 T4 T5 T6 T7 T8 T9 x1 x2 x3 y1 y2 y3 z1 z2 z3 a1 b1 a2 b2 a3 b3 a4 b4 a5 b5 a6 b6 a7 b7 a8 b8 a9 b9)) fun p hp => .tail _ (.tail _ (.tail _ (.tail _ (List.mem_append_right _ hp))))
  have up4 : ∀ p ∈ led3, p ∈ (L + 1 + 1 + 1 + 1 + 1, w5') :: (x, instObj 218 d) :: (d, dictOf [⟨kh, .str (Str.ofString "_headers") kt, .ref l⟩] 1) :: (l, ({ cls := .type "list", data := .seq #[.ref T1, .ref T2, .ref T3, .ref T4, .ref T5, .ref T6, .ref T7, .ref T8, .ref T9] 9 } : Obj)) :: (led3 ++ entL T1 T2 T3 T4 T5 T6 T7 T8 T9 x1 x2 x3 y1 y2 y3 z1 z2 z3 a1 b1 a2 b2 a3 b3 a4 b4 a5 b5 a6 b6 a7 b7 a8 b8 a9 b9) := fun p hp => .tail _ (.tail _ (.tail _ (.tail _ (List.mem_append_left _ hp))))
  refine wpAny_execs_cons (s4 w mean mg mb B X T F4 N4 d5' (.head _) (.tail _ (.head _)) (.tail _ (.tail _ (.head _))) (.tail _ (.tail _ (.tail _ (.head _)))) me1 me2 me3 me4 me5 me6 me7 me8 me9 hx1.1 hx2.1 hx3.1 hy1.1 hy2.1 hy3.1 hz1.1 hz2.1 hz3.1 fun Dr s1 s2 s3 P1 P2 P3 objs' h5 tk5 F5 N5 g1 g2 g3 j1 j2 j3 => ?_)
  generalize (L + 1 + 1 + 1 + 1 + 1, w5') :: (x, instObj 218 d) :: (d, dictOf [⟨kh, .str (Str.ofString "_headers") kt, .ref l⟩] 1) :: (l, ({ cls := .type "list", data := .seq #[.ref T1, .ref T2, .ref T3, .ref T4, .ref T5, .ref T6, .ref T7, .ref T8, .ref T9] 9 } : Obj)) :: (led3 ++ entL T1 T2 T3 T4 T5 T6 T7 T8 T9 x1 x2 x3 y1 y2 y3 z1 z2 z3 a1 b1 a2 b2 a3 b3 a4 b4 a5 b5 a6 b6 a7 b7 a8 b8 a9 b9) = led4 at up4 N5
  have up5 : ∀ p ∈ objs', p ∈ rdObj Dr s1 s2 s3 3 :: (led4 ++ objs') := fun p hp => .tail _ (List.mem_append_right _ hp)
  have up6 : ∀ p ∈ led3, p ∈ rdObj Dr s1 s2 s3 3 :: (led4 ++ objs') := fun p hp => .tail _ (List.mem_append_left _ (up4 p hp))
  have up7 : ∀ p ∈ led', p ∈ rdObj Dr s1 s2 s3 3 :: (led4 ++ objs') := fun p hp => up6 p (up3 p hp)
  exact law_tail w mean mg mb F5 N5 (if_pos rfl) (.head _) (g1.mono up5) (g2.mono up5) (g3.mono up5) (gx.congr j1) (gy.congr j2) (gz.congr j3) f1 (up6 _ mP) (up6 _ mt) (px.mono up7) (py.mono up7) (pz.mono up7) j1 j2 j3 B X T hpo fun m' h' tk' F' => c m' h' tk' F'
end
section
local macro_rules | `(tactic| k_qdec) => `(tactic| decide +kernel)
set_option maxRecDepth 100000 in
set_option maxHeartbeats 8000000 in
theorem law_top : PySem.Challenge.rw_pg0251_01.Holds := Mine.hd (by
  w_strict (k_go0)
  rename_i w s₀ s₁ mg mb G Y fa o pm doc ho hg KX X V GL T B TE TW w14 w13 M w12 w11 hcd ns hs hlay0 hLl hr hl2 w9 w8 a vs w5 hL ra w1 r0 hI hr' hcond hcond2 K0 hD h₁ tk₁ F c5 c4 c3 c2 c1 l5 l4 l3 l2 l1 N0 X0
  refine law_body w _ mg mb (cd := Value.ref w12) (aL := fa) K0 KX T ?_ F N0 l1 l2 l3 l4 l5 ?_ hL hI ?_ ?_
  · passes_own
  · rfl
  · omega
  · intro m' h' tk' F'
    dsimp only
    k_end
    wrow_close)
end
end
end Mine
end
theorem PySem.Challenge.cw_pg0251_01_holds : PySem.Challenge.rw_pg0251_01.Holds := by
  exact Mine.law_top
